import PyProof.Rows.All
import Wide.All
import OpenK.AllK
import Wide.FinOn
import PySem.Challenge.RW_ny0183_01
set_option Elab.async false
set_option linter.unusedVariables false

noncomputable section
open PySem PySem.W PyProof.Rows PySem.Calls
set_option Elab.async false
namespace Mine

/-- an abstract value: a datum (frozen), or a value told exactly -/
inductive AV where
  | dat (d : PyData)
  | raw (v : Value)
  | rng (a b c : Int)

abbrev Sub (g h : Heap) : Prop := ∀ b o, g.get? b = some o → h.get? b = some o
theorem Sub.rfl {g : Heap} : Sub g g := fun _ _ e => e
theorem Sub.trans {g h k : Heap} (x : Sub g h) (y : Sub h k) : Sub g k := fun b o e => y b o (x b o e)

def frz (h : Heap) (D : List Addr) : Heap := hideAll h D
theorem frz_get {h : Heap} {D : List Addr} {b : Addr} {o : Obj} : (frz h D).get? b = some o ↔ h.get? b = some o ∧ b ∉ D := by
  constructor
  · intro e
    refine ⟨of_hideAll D e, fun hb => ?_⟩
    have := hideAll_none D (h := h) hb
    unfold frz at e
    rw [this] at e; cases e
  · rintro ⟨e, n⟩; exact hideAll_get D e n
theorem frz_sub {h h' : Heap} {D D' : List Addr} (x : ∀ b o, h.get? b = some o → b ∉ D → h'.get? b = some o ∧ b ∉ D') : Sub (frz h D) (frz h' D') := fun b o e => by
  obtain ⟨e1, e2⟩ := frz_get.mp e
  exact frz_get.mpr (x b o e1 e2)

def VRel (g : Heap) (v : Value) : AV → Prop
  | .dat d => ∃ as, Reads g v d as
  | .raw u => v = u
  | .rng a b c => ∃ r t u w, v = .ref r ∧ IsRange g r a b c t u w
theorem VRel.mono {g g' : Heap} {v : Value} {d : AV} (x : Sub g g') (h : VRel g v d) : VRel g' v d := by
  cases d with
  | dat d => obtain ⟨as, r⟩ := h; exact ⟨as, Reads.keeps x r⟩
  | raw u => exact h
  | rng a b c => obtain ⟨r, t, u, w, e, q⟩ := h; exact ⟨r, t, u, w, e, x _ _ q⟩

def VRels (g : Heap) : List Value → List AV → Prop
  | [], [] => True
  | v :: vs, d :: ds => VRel g v d ∧ VRels g vs ds
  | _, _ => False
theorem VRels.one {g : Heap} {vs : List Value} {d : AV} (r : VRels g vs [d]) : ∃ v, vs = [v] ∧ VRel g v d := by
  cases vs with
  | nil => cases r
  | cons v vs =>
    cases vs with
    | nil => exact ⟨v, rfl, r.1⟩
    | cons u vs => cases r.2
theorem VRels.two {g : Heap} {vs : List Value} {d e : AV} (r : VRels g vs [d, e]) : ∃ v u, vs = [v, u] ∧ VRel g v d ∧ VRel g u e := by
  cases vs with
  | nil => cases r
  | cons v vs =>
    obtain ⟨u, rfl, q⟩ := VRels.one r.2
    exact ⟨v, u, rfl, r.1, q⟩
theorem VRels.three {g : Heap} {vs : List Value} {d e f : AV} (r : VRels g vs [d, e, f]) : ∃ v u w, vs = [v, u, w] ∧ VRel g v d ∧ VRel g u e ∧ VRel g w f := by
  cases vs with
  | nil => cases r
  | cons v vs =>
    obtain ⟨u, w, rfl, q, q'⟩ := VRels.two r.2
    exact ⟨v, u, w, rfl, r.1, q, q'⟩
theorem VRels.mono {g g' : Heap} (x : Sub g g') : ∀ {vs : List Value} {ds : List AV}, VRels g vs ds → VRels g' vs ds
  | [], [], _ => trivial
  | _ :: _, _ :: _, h => ⟨h.1.mono x, VRels.mono x h.2⟩
  | [], _ :: _, h => h.elim
  | _ :: _, [], h => h.elim
theorem VRels.length {g : Heap} : ∀ {vs : List Value} {ds : List AV}, VRels g vs ds → vs.length = ds.length
  | [], [], _ => rfl
  | _ :: _, _ :: _, h => by rw [List.length_cons, List.length_cons, VRels.length h.2]
  | [], _ :: _, h => h.elim
  | _ :: _, [], h => h.elim
theorem VRels.get {g : Heap} : ∀ {vs : List Value} {ds : List AV} {i : Nat} {d : AV}, VRels g vs ds → ds[i]? = some d → ∃ v, vs[i]? = some v ∧ VRel g v d
  | [], [], _, _, _, e => by simp at e
  | v :: _, d :: _, 0, _, h, e => by
    simp only [List.getElem?_cons_zero, Option.some.injEq] at e; subst e
    exact ⟨v, rfl, h.1⟩
  | _ :: _, _ :: _, i + 1, _, h, e => by
    simp only [List.getElem?_cons_succ] at e ⊢
    exact VRels.get h.2 e
  | [], _ :: _, _, _, h, _ => h.elim
  | _ :: _, [], _, _, h, _ => h.elim
theorem VRels.append {g : Heap} : ∀ {vs ws : List Value} {ds es : List AV}, VRels g vs ds → VRels g ws es → VRels g (vs ++ ws) (ds ++ es)
  | [], _, [], _, _, h => h
  | _ :: _, _, _ :: _, _, h, h' => ⟨h.1, VRels.append h.2 h'⟩
  | [], _, _ :: _, _, h, _ => h.elim
  | _ :: _, _, [], _, h, _ => h.elim
theorem VRels.set {g : Heap} : ∀ {vs : List Value} {ds : List AV} (i : Nat) {v : Value} {d : AV}, VRels g vs ds → VRel g v d → VRels g (vs.set i v) (ds.set i d)
  | [], [], _, _, _, _, _ => trivial
  | _ :: _, _ :: _, 0, _, _, h, h' => ⟨h', h.2⟩
  | _ :: _, _ :: _, i + 1, _, _, h, h' => ⟨h.1, VRels.set i h.2 h'⟩
  | [], _ :: _, _, _, _, h, _ => h.elim
  | _ :: _, [], _, _, _, h, _ => h.elim
theorem VRels.take {g : Heap} : ∀ {vs : List Value} {ds : List AV} (i : Nat), VRels g vs ds → VRels g (vs.take i) (ds.take i)
  | [], [], _, _ => by simp [VRels]
  | _ :: _, _ :: _, 0, _ => trivial
  | _ :: _, _ :: _, i + 1, h => ⟨h.1, VRels.take i h.2⟩
  | [], _ :: _, _, h => h.elim
  | _ :: _, [], _, h => h.elim
theorem VRels.drop {g : Heap} : ∀ {vs : List Value} {ds : List AV} (i : Nat), VRels g vs ds → VRels g (vs.drop i) (ds.drop i)
  | [], [], _, _ => by simp [VRels]
  | _ :: _, _ :: _, 0, h => h
  | _ :: _, _ :: _, i + 1, h => VRels.drop i h.2
  | [], _ :: _, _, h => h.elim
  | _ :: _, [], _, h => h.elim
theorem VRels.eraseIdx {g : Heap} : ∀ {vs : List Value} {ds : List AV} (i : Nat), VRels g vs ds → VRels g (vs.eraseIdx i) (ds.eraseIdx i)
  | [], [], _, _ => by simp [VRels]
  | _ :: _, _ :: _, 0, h => h.2
  | _ :: _, _ :: _, i + 1, h => ⟨h.1, VRels.eraseIdx i h.2⟩
  | [], _ :: _, _, h => h.elim
  | _ :: _, [], _, h => h.elim
theorem VRels.of_reads {g : Heap} : ∀ {vs : List Value} {ds : List PyData} {as : List Addr}, ReadsAll g vs ds as → VRels g vs (ds.map .dat)
  | [], ds, _, r => by cases r; trivial
  | v :: vs, ds, _, r => by
    cases r with
    | cons h r => exact ⟨⟨_, h⟩, VRels.of_reads r⟩
theorem VRels.reads {g : Heap} : ∀ {vs : List Value} {ds : List PyData}, VRels g vs (ds.map .dat) → ∃ as, ReadsAll g vs ds as
  | [], [], _ => ⟨_, .nil⟩
  | _ :: _, _ :: _, h => by
    obtain ⟨as, r⟩ := h.1
    obtain ⟨bs, q⟩ := VRels.reads h.2
    exact ⟨_, .cons r q⟩
  | [], _ :: _, h => h.elim
  | _ :: _, [], h => h.elim

/-- an abstract mutable object -/
inductive ACell where
  | list (ds : List AV)
  | dict (n : Nat) (m : Int → Option AV)
  | ns (m : Str → Option AV)
  | cell (o : Option AV)
  | obj (P : Obj → Prop)
  | iter (src : AV) (k : Nat)

def NsRel (g : Heap) (mc : Str → Option Value) (m : Str → Option AV) : Prop := ∀ x d, m x = some d → ∃ v, mc x = some v ∧ VRel g v d
theorem NsRel.mono {g g' : Heap} {mc : Str → Option Value} {m : Str → Option AV} (x : Sub g g') (h : NsRel g mc m) : NsRel g' mc m := fun y d e => by
  obtain ⟨v, a, b⟩ := h y d e; exact ⟨v, a, b.mono x⟩

def ACell.At (g h : Heap) (a : Addr) : ACell → Prop
  | .list ds => ∃ vs n, h.get? a = some (listOf vs.toArray n) ∧ VRels g vs ds
  | .dict n m => h.DictLe a n ∧ ∃ mc, h.IntMap a mc ∧ ∀ k d, m k = some d → ∃ v, mc k = some v ∧ VRel g v d
  | .ns m => ∃ mc, h.Ns a mc ∧ NsRel g mc m
  | .cell o => ∃ ob ov, h.get? a = some ob ∧ ob.data = .cell ov ∧ ∀ d, o = some d → ∃ v, ov = some v ∧ VRel g v d
  | .obj P => ∃ o, h.get? a = some o ∧ P o
  | .iter (.rng x y z) k => IsRangeIter h a (x + k * z) (((Builtin.Range.rangeSize x y z).toNat : Int) - k) z
  | .iter (.dat d) k => ∃ l ds as, d = .list ds ∧ Reads g (.ref l) (.list ds) as ∧ h.IsListIter a l k
  | .iter (.raw _) _ => False
theorem ACell.At.live {g h : Heap} {a : Addr} {c : ACell} (x : c.At g h a) : ∃ o, h.get? a = some o := by
  cases c with
  | list ds => obtain ⟨vs, n, e, _⟩ := x; exact ⟨_, e⟩
  | dict n m => obtain ⟨_, mc, ⟨o, _, _, e, _⟩, _⟩ := x; exact ⟨o, e⟩
  | ns m => obtain ⟨mc, ⟨o, es, ep, e, _⟩, _⟩ := x; exact ⟨o, e⟩
  | cell o => obtain ⟨ob, ov, e, _⟩ := x; exact ⟨ob, e⟩
  | obj P => obtain ⟨o, e, _⟩ := x; exact ⟨o, e⟩
  | iter src k =>
    cases src with
    | rng a b c => exact ⟨_, x⟩
    | dat d => obtain ⟨l, ds, as, _, _, o, e, _⟩ := x; exact ⟨o, e⟩
    | raw v => exact x.elim
theorem ACell.At.same {g g' h h' : Heap} {a : Addr} {c : ACell} (x : c.At g h a) (y : Sub g g') (e : h'.get? a = h.get? a) : c.At g' h' a := by
  cases c with
  | list ds => obtain ⟨vs, n, e1, r⟩ := x; exact ⟨vs, n, e.trans e1, r.mono y⟩
  | dict n m =>
    obtain ⟨z, mc, ⟨o, es, ep, e1, r⟩, q⟩ := x
    exact ⟨fun o es ep h1 h2 => z o es ep (e.symm.trans h1) h2, mc, ⟨o, es, ep, e.trans e1, r⟩, fun k d hd => by obtain ⟨v, p, t⟩ := q k d hd; exact ⟨v, p, t.mono y⟩⟩
  | ns m => obtain ⟨mc, ⟨o, es, ep, e1, r⟩, q⟩ := x; exact ⟨mc, ⟨o, es, ep, e.trans e1, r⟩, q.mono y⟩
  | cell o => obtain ⟨ob, ov, e1, r, q⟩ := x; exact ⟨ob, ov, e.trans e1, r, fun d hd => by obtain ⟨v, p, t⟩ := q d hd; exact ⟨v, p, t.mono y⟩⟩
  | obj P => obtain ⟨o, e1, p⟩ := x; exact ⟨o, e.trans e1, p⟩
  | iter src k =>
    cases src with
    | rng a b c => exact e.trans x
    | dat d => obtain ⟨l, ds, as, h1, h2, o, e1, p⟩ := x; exact ⟨l, ds, as, h1, Reads.keeps y h2, o, e.trans e1, p⟩
    | raw v => exact x.elim
theorem ACell.At.sub {g g' h h' : Heap} {a : Addr} {c : ACell} (x : c.At g h a) (y : Sub g g') (e : Sub h h') : c.At g' h' a := by
  obtain ⟨o, ho⟩ := x.live
  exact x.same y ((e a o ho).trans ho.symm)

structure AS where
  loc : Str → Option AV
  mem : List (Addr × ACell)

def dom (L : Addr) (σ : AS) : List Addr := L :: σ.mem.map Prod.fst
def frzS (L : Addr) (σ : AS) (s : Shared) : Heap := frz s.heap (dom L σ)

structure St (S₀ : Shared) (L : Addr) (σ : AS) (s : Shared) : Prop where
  rest : ∃ h tk, s = { S₀ with heap := h, toks := tk }
  keep : Sub S₀.heap (frzS L σ s)
  nodup : (dom L σ).Nodup
  ns : ∃ mc, s.heap.Ns L mc ∧ NsRel (frzS L σ s) mc σ.loc
  mem : ∀ p ∈ σ.mem, p.2.At (frzS L σ s) s.heap p.1

section
variable {S₀ : Shared} {L : Addr} {σ : AS} {s : Shared}
theorem St.live (x : St S₀ L σ s) : ∀ b ∈ dom L σ, ∃ o, s.heap.get? b = some o := by
  intro b hb
  rcases List.mem_cons.mp hb with rfl | hb
  · obtain ⟨mc, ⟨o, es, ep, e, _⟩, _⟩ := x.ns; exact ⟨o, e⟩
  · obtain ⟨p, hp, rfl⟩ := List.mem_map.mp hb
    exact (x.mem p hp).live
theorem St.base (x : St S₀ L σ s) : Sub S₀.heap s.heap := fun b o e => (frz_get.mp (x.keep b o e)).1
theorem St.sub_heap (_x : St S₀ L σ s) : Sub (frzS L σ s) s.heap := fun _ _ e => (frz_get.mp e).1

theorem St.toks (x : St S₀ L σ s) (tk : Nat) : St S₀ L σ { s with toks := tk } :=
  ⟨by obtain ⟨h, t, rfl⟩ := x.rest; exact ⟨h, tk, rfl⟩, x.keep, x.nodup, x.ns, x.mem⟩

/-- the heap grows -/
theorem St.grow {h' : Heap} (x : St S₀ L σ s) (k : Sub s.heap h') (tk : Nat) : St S₀ L σ { s with heap := h', toks := tk } ∧ Sub (frzS L σ s) (frzS L σ { s with heap := h', toks := tk }) := by
  have y : Sub (frzS L σ s) (frzS L σ { s with heap := h', toks := tk }) := frz_sub fun b o e n => ⟨k b o e, n⟩
  refine ⟨⟨by obtain ⟨h, t, rfl⟩ := x.rest; exact ⟨h', tk, rfl⟩, x.keep.trans y, x.nodup, ?_, fun p hp => (x.mem p hp).sub y k⟩, y⟩
  obtain ⟨mc, n, r⟩ := x.ns
  exact ⟨mc, n.keeps k, r.mono y⟩

/-- a new local's map -/
theorem St.setNs {h' : Heap} {m' : Str → Option AV} {mc' : Str → Option Value} (x : St S₀ L σ s) (hn : h'.Ns L mc') (hs : Heap.SameBut L s.heap h') (r : NsRel (frzS L σ s) mc' m') (tk : Nat) :
    St S₀ L { σ with loc := m' } { s with heap := h', toks := tk } ∧ Sub (frzS L σ s) (frzS L { σ with loc := m' } { s with heap := h', toks := tk }) := by
  have y : Sub (frzS L σ s) (frzS L { σ with loc := m' } { s with heap := h', toks := tk }) := frz_sub fun b o e n => ⟨(hs.2 b fun q => n (q ▸ List.mem_cons_self)).trans e, n⟩
  refine ⟨⟨by obtain ⟨h, t, rfl⟩ := x.rest; exact ⟨h', tk, rfl⟩, x.keep.trans y, x.nodup, ⟨mc', hn, r.mono y⟩, fun p hp => (x.mem p hp).same y (hs.2 _ fun q => ?_)⟩, y⟩
  have nd := x.nodup
  unfold dom at nd
  exact (List.nodup_cons.mp nd).1 (q ▸ List.mem_map_of_mem hp)

/-- one cell of the memory replaced -/
inductive Upd : List (Addr × ACell) → Addr → ACell → ACell → List (Addr × ACell) → Prop
  | head {a : Addr} {c c' : ACell} {r : List (Addr × ACell)} : Upd ((a, c) :: r) a c c' ((a, c') :: r)
  | tail {a : Addr} {c c' : ACell} {p : Addr × ACell} {r r' : List (Addr × ACell)} : Upd r a c c' r' → Upd (p :: r) a c c' (p :: r')
theorem Upd.keys {m m' : List (Addr × ACell)} {a : Addr} {c c' : ACell} (u : Upd m a c c' m') : m'.map Prod.fst = m.map Prod.fst := by
  induction u with
  | head => rfl
  | tail _ ih => simp only [List.map_cons, ih]
theorem Upd.mem {m m' : List (Addr × ACell)} {a : Addr} {c c' : ACell} (u : Upd m a c c' m') : (a, c) ∈ m := by
  induction u with
  | head => exact .head _
  | tail _ ih => exact .tail _ ih
theorem Upd.mem' {m m' : List (Addr × ACell)} {a : Addr} {c c' : ACell} (u : Upd m a c c' m') : (m.map Prod.fst).Nodup → ∀ p ∈ m', p = (a, c') ∨ (p ∈ m ∧ p.1 ≠ a) := by
  induction u with
  | head =>
    intro nd p hp
    rcases List.mem_cons.mp hp with rfl | hp
    · exact .inl rfl
    · refine .inr ⟨.tail _ hp, fun q => ?_⟩
      simp only [List.map_cons, List.nodup_cons] at nd
      exact nd.1 (q ▸ List.mem_map_of_mem hp)
  | @tail a c c' p₀ r r' u' ih =>
    intro nd p hp
    simp only [List.map_cons, List.nodup_cons] at nd
    rcases List.mem_cons.mp hp with rfl | hp
    · exact .inr ⟨.head _, fun q => nd.1 (by rw [q]; exact List.mem_map_of_mem (f := Prod.fst) u'.mem)⟩
    · rcases ih nd.2 p hp with h | ⟨h, n⟩
      · exact .inl h
      · exact .inr ⟨.tail _ h, n⟩

theorem St.upd {h' : Heap} {a : Addr} {c c' : ACell} {mem' : List (Addr × ACell)} (x : St S₀ L σ s) (u : Upd σ.mem a c c' mem') (hs : Heap.SameBut a s.heap h') (tk : Nat)
    (hc : ∀ g, Sub (frzS L σ s) g → c'.At g h' a) :
    St S₀ L { σ with mem := mem' } { s with heap := h', toks := tk } ∧ Sub (frzS L σ s) (frzS L { σ with mem := mem' } { s with heap := h', toks := tk }) := by
  have hd : dom L { σ with mem := mem' } = dom L σ := by unfold dom; rw [u.keys]
  have ha : a ∈ dom L σ := .tail _ (List.mem_map_of_mem (f := Prod.fst) u.mem)
  have y : Sub (frzS L σ s) (frzS L { σ with mem := mem' } { s with heap := h', toks := tk }) := by
    unfold frzS; rw [hd]
    exact frz_sub fun b o e n => ⟨(hs.2 b fun q => n (q ▸ ha)).trans e, n⟩
  have nd := x.nodup
  have nd' := (List.nodup_cons.mp nd).2
  have hLa : L ≠ a := fun q => (List.nodup_cons.mp nd).1 (by rw [q]; exact List.mem_map_of_mem (f := Prod.fst) u.mem)
  refine ⟨⟨by obtain ⟨h, t, rfl⟩ := x.rest; exact ⟨h', tk, rfl⟩, x.keep.trans y, by rw [hd]; exact nd, ?_, fun p hp => ?_⟩, y⟩
  · obtain ⟨mc, n, r⟩ := x.ns
    exact ⟨mc, n.sameBut hs hLa, r.mono y⟩
  · rcases u.mem' nd' p hp with rfl | ⟨hp', n⟩
    · exact hc _ y
    · exact (x.mem p hp').same y (hs.2 _ n)

/-- a new cell -/
theorem St.new {h' : Heap} {a : Addr} {c : ACell} (x : St S₀ L σ s) (k : Sub s.heap h') (hf : s.heap.get? a = none) (tk : Nat) (hc : ∀ g, Sub (frzS L σ s) g → c.At g h' a) :
    St S₀ L { σ with mem := (a, c) :: σ.mem } { s with heap := h', toks := tk } ∧ Sub (frzS L σ s) (frzS L { σ with mem := (a, c) :: σ.mem } { s with heap := h', toks := tk }) := by
  have hne : ∀ b o, s.heap.get? b = some o → b ≠ a := fun b o e q => by rw [q, hf] at e; cases e
  have y : Sub (frzS L σ s) (frzS L { σ with mem := (a, c) :: σ.mem } { s with heap := h', toks := tk }) := frz_sub fun b o e n => ⟨k b o e, fun hb => by
    rcases List.mem_cons.mp hb with rfl | hb
    · exact n List.mem_cons_self
    · rcases List.mem_cons.mp hb with rfl | hb
      · exact hne _ o e rfl
      · exact n (.tail _ hb)⟩
  refine ⟨⟨by obtain ⟨h, t, rfl⟩ := x.rest; exact ⟨h', tk, rfl⟩, x.keep.trans y, ?_, ?_, fun p hp => ?_⟩, y⟩
  · have nd := x.nodup
    have hn : a ∉ dom L σ := fun hb => by obtain ⟨o, e⟩ := x.live a hb; rw [hf] at e; cases e
    unfold dom at nd hn ⊢
    simp only [List.map_cons, List.nodup_cons, List.mem_cons, not_or] at nd hn ⊢
    exact ⟨⟨Ne.symm hn.1, nd.1⟩, hn.2, nd.2⟩
  · obtain ⟨mc, n, r⟩ := x.ns
    exact ⟨mc, n.keeps k, r.mono y⟩
  · rcases List.mem_cons.mp hp with rfl | hp
    · exact hc _ y
    · exact (x.mem p hp).sub y k

/-- fewer cells, fewer names -/
theorem St.less {σ' : AS} (x : St S₀ L σ s) (hm : σ'.mem.Sublist σ.mem) (hl : ∀ y d, σ'.loc y = some d → σ.loc y = some d) : St S₀ L σ' s ∧ Sub (frzS L σ s) (frzS L σ' s) := by
  have hs : (dom L σ').Sublist (dom L σ) := by unfold dom; exact (hm.map _).cons_cons _
  have y : Sub (frzS L σ s) (frzS L σ' s) := frz_sub fun b o e n => ⟨e, fun hb => n (hs.subset hb)⟩
  refine ⟨⟨x.rest, x.keep.trans y, x.nodup.sublist hs, ?_, fun p hp => (x.mem p (hm.subset hp)).sub y Sub.rfl⟩, y⟩
  obtain ⟨mc, n, r⟩ := x.ns
  exact ⟨mc, n, fun z d e => (r.mono y) z d (hl z d e)⟩

/-- a cell lost -/
theorem St.lost {h' : Heap} {a : Addr} {k : ACell} {m₁ m₂ : List (Addr × ACell)} {loc : Str → Option AV} (x : St S₀ L ⟨loc, m₁ ++ (a, k) :: m₂⟩ s) (e : Heap.ExtBut a s.heap h') (tk : Nat) :
    St S₀ L ⟨loc, m₁ ++ m₂⟩ { s with heap := h', toks := tk } ∧ Sub (frzS L ⟨loc, m₁ ++ (a, k) :: m₂⟩ s) (frzS L ⟨loc, m₁ ++ m₂⟩ { s with heap := h', toks := tk }) := by
  have nd := x.nodup
  have hsub : (m₁ ++ m₂).Sublist (m₁ ++ (a, k) :: m₂) := (List.Sublist.refl m₁).append (List.sublist_cons_self _ _)
  have hs : (dom L ⟨loc, m₁ ++ m₂⟩).Sublist (dom L ⟨loc, m₁ ++ (a, k) :: m₂⟩) := (hsub.map _).cons_cons _
  have ha : a ∈ dom L ⟨loc, m₁ ++ (a, k) :: m₂⟩ := .tail _ (List.mem_map_of_mem (f := Prod.fst) (a := (a, k)) (List.mem_append_right _ (.head _)))
  have hLa : L ≠ a := fun q => (List.nodup_cons.mp nd).1 (by rw [q]; exact List.mem_map_of_mem (f := Prod.fst) (a := (a, k)) (List.mem_append_right _ (.head _)))
  have hm : ∀ p ∈ m₁ ++ m₂, p.1 ≠ a := fun p hp q => by
    have nd' := (List.nodup_cons.mp nd).2
    have : ((a, k) :: (m₁ ++ m₂)).map Prod.fst |>.Nodup := (List.Perm.nodup_iff ((List.perm_middle (a := (a, k)) (l₁ := m₁) (l₂ := m₂)).map Prod.fst)).mp nd'
    exact (List.nodup_cons.mp this).1 (List.mem_map.mpr ⟨p, hp, q⟩)
  have y : Sub (frzS L ⟨loc, m₁ ++ (a, k) :: m₂⟩ s) (frzS L ⟨loc, m₁ ++ m₂⟩ { s with heap := h', toks := tk }) := frz_sub fun b o e' n => ⟨e b o (fun q => n (q ▸ ha)) e', fun hb => n (hs.subset hb)⟩
  refine ⟨⟨by obtain ⟨h, t, rfl⟩ := x.rest; exact ⟨h', tk, rfl⟩, x.keep.trans y, nd.sublist hs, ?_, fun p hp => ?_⟩, y⟩
  · obtain ⟨mc, n, r⟩ := x.ns
    exact ⟨mc, n.extBut e hLa, r.mono y⟩
  · have q := x.mem p (hsub.subset hp)
    obtain ⟨o, ho⟩ := q.live
    exact q.same y ((e p.1 o (hm p hp) ho).trans ho.symm)

/-- the cells in another order -/
theorem St.perm {m' : List (Addr × ACell)} (x : St S₀ L σ s) (p : σ.mem.Perm m') : St S₀ L ⟨σ.loc, m'⟩ s ∧ Sub (frzS L σ s) (frzS L ⟨σ.loc, m'⟩ s) ∧ Sub (frzS L ⟨σ.loc, m'⟩ s) (frzS L σ s) := by
  have hp : (dom L σ).Perm (dom L ⟨σ.loc, m'⟩) := (p.map _).cons _
  have y : Sub (frzS L σ s) (frzS L ⟨σ.loc, m'⟩ s) := frz_sub fun b o e n => ⟨e, fun hb => n (hp.mem_iff.mpr hb)⟩
  have y' : Sub (frzS L ⟨σ.loc, m'⟩ s) (frzS L σ s) := frz_sub fun b o e n => ⟨e, fun hb => n (hp.mem_iff.mp hb)⟩
  refine ⟨⟨x.rest, x.keep.trans y, hp.nodup_iff.mp x.nodup, ?_, fun q hq => (x.mem q (p.mem_iff.mpr hq)).sub y Sub.rfl⟩, y, y'⟩
  obtain ⟨mc, n, r⟩ := x.ns
  exact ⟨mc, n, r.mono y⟩
end
end Mine

end

noncomputable section
open PySem PySem.W PyProof.Rows PySem.Calls
set_option Elab.async false
set_option linter.unusedVariables false
namespace Mine

structure Cx where
  prog : Program
  w : World
  S₀ : Shared
  A : Around
  env : Env
  fr : List (Addr × ACell)

abbrev Cx.all (c : Cx) (σ : AS) : AS := ⟨σ.loc, σ.mem ++ c.fr⟩
abbrev Cx.St (c : Cx) (σ : AS) (s : Shared) : Prop := Mine.St c.S₀ c.env.locals (c.all σ) s
abbrev Cx.fz (c : Cx) (σ : AS) (s : Shared) : Heap := frzS c.env.locals (c.all σ) s
abbrev Cx.wp {α : Type} (c : Cx) (t : Sem α) (Q : α → Shared → Prop) (E : Value → Shared → Prop) (s : Shared) : Prop := wpAny (model c.prog c.w) c.A t Q E s

/-- the tree t, begun in a state told by σ, ends in one told by σ' with a value told by d -/
def Cx.TR (c : Cx) (t : Sem Value) (σ : AS) (d : AV) (σ' : AS) : Prop :=
  ∀ (E Q : Value → Shared → Prop) (s : Shared), c.St σ s → (∀ v s', c.St σ' s' → Sub (c.fz σ s) (c.fz σ' s') → VRel (c.fz σ' s') v d → Q v s') → c.wp t Q E s
def Cx.TB (c : Cx) (t : Sem Bool) (σ : AS) (b : Bool) (σ' : AS) : Prop :=
  ∀ (E : Value → Shared → Prop) (Q : Bool → Shared → Prop) (s : Shared), c.St σ s → (∀ s', c.St σ' s' → Sub (c.fz σ s) (c.fz σ' s') → Q b s') → c.wp t Q E s
def Cx.TU {α : Type} (c : Cx) (t : Sem α) (σ : AS) (σ' : AS) : Prop :=
  ∀ (E : Value → Shared → Prop) (Q : α → Shared → Prop) (s : Shared), c.St σ s → (∀ a s', c.St σ' s' → Sub (c.fz σ s) (c.fz σ' s') → Q a s') → c.wp t Q E s
def Cx.OP1 (c : Cx) (f : Value → Sem Value) (d : AV) (σ : AS) (r : AV) (σ' : AS) : Prop :=
  ∀ (E Q : Value → Shared → Prop) (s : Shared) (v : Value), c.St σ s → VRel (c.fz σ s) v d → (∀ r' s', c.St σ' s' → Sub (c.fz σ s) (c.fz σ' s') → VRel (c.fz σ' s') r' r → Q r' s') → c.wp (f v) Q E s
def Cx.OP2 (c : Cx) (f : Value → Value → Sem Value) (d e : AV) (σ : AS) (r : AV) (σ' : AS) : Prop :=
  ∀ (E Q : Value → Shared → Prop) (s : Shared) (v u : Value), c.St σ s → VRel (c.fz σ s) v d → VRel (c.fz σ s) u e → (∀ r' s', c.St σ' s' → Sub (c.fz σ s) (c.fz σ' s') → VRel (c.fz σ' s') r' r → Q r' s') → c.wp (f v u) Q E s
/-- a tree over a list of values -/
def Cx.OPs (c : Cx) (f : List Value → Sem Value) (ds : List AV) (σ : AS) (r : AV) (σ' : AS) : Prop :=
  ∀ (E Q : Value → Shared → Prop) (s : Shared) (vs : List Value), c.St σ s → VRels (c.fz σ s) vs ds → (∀ r' s', c.St σ' s' → Sub (c.fz σ s) (c.fz σ' s') → VRel (c.fz σ' s') r' r → Q r' s') → c.wp (f vs) Q E s
/-- truth of a value -/
def Cx.TT (c : Cx) (d : AV) (σ : AS) (b : Bool) : Prop :=
  ∀ (E : Value → Shared → Prop) (Q : Bool → Shared → Prop) (s : Shared) (v : Value), c.St σ s → VRel (c.fz σ s) v d → (∀ s', c.St σ s' → Sub (c.fz σ s) (c.fz σ s') → Q b s') → c.wp (truthy v) Q E s

def Cx.EV (c : Cx) (e : Expr) (σ : AS) (d : AV) (σ' : AS) : Prop := c.TR (eval e c.env) σ d σ'
def Cx.TV (c : Cx) (e : Expr) (σ : AS) (b : Bool) (σ' : AS) : Prop := c.TB (isTrue e c.env (eval e c.env)) σ b σ'

abbrev AV.int (i : Int) : AV := .dat (.int i)
abbrev AV.str (x : Str) : AV := .dat (.str x)
abbrev AV.bool (b : Bool) : AV := .dat (.bool b)
abbrev AV.none : AV := .dat .none

theorem VRel.int {g : Heap} {v : Value} {i : Int} (h : VRel g v (.int i)) : ∃ t, v = .int i t := by obtain ⟨as, r⟩ := h; cases r; exact ⟨_, rfl⟩
theorem VRel.str {g : Heap} {v : Value} {x : Str} (h : VRel g v (.str x)) : ∃ t, v = .str x t := by obtain ⟨as, r⟩ := h; cases r; exact ⟨_, rfl⟩
theorem VRel.bool {g : Heap} {v : Value} {b : Bool} (h : VRel g v (.bool b)) : v = .bool b := by obtain ⟨as, r⟩ := h; cases r; rfl
theorem VRel.none {g : Heap} {v : Value} (h : VRel g v .none) : v = .none := by obtain ⟨as, r⟩ := h; cases r; rfl
theorem VRel.mkInt {g : Heap} (i : Int) (t : Tok) : VRel g (.int i t) (.int i) := ⟨_, .int i t⟩
theorem VRel.mkStr {g : Heap} (x : Str) (t : Tok) : VRel g (.str x t) (.str x) := ⟨_, .str x t⟩
theorem VRel.mkBool {g : Heap} (b : Bool) : VRel g (.bool b) (.bool b) := ⟨_, .bool b⟩
theorem VRel.mkNone {g : Heap} : VRel g .none .none := ⟨_, .none⟩

section
variable {c : Cx} {σ σ₁ σ₂ σ₃ : AS}

-- constants
theorem EV_int {i : Int} {k : Nat} {p : Pos} : c.EV (.Constant (.int i) k p) σ (.int i) σ := fun _ _ s x h =>
  wpAny_Constant_int (h _ _ (x.toks _) Sub.rfl (VRel.mkInt ..))
theorem EV_str {x : Str} {k : Nat} {p : Pos} : c.EV (.Constant (.str x) k p) σ (.str x) σ := fun _ _ s x h =>
  Constant_str (h _ _ (x.toks _) Sub.rfl (VRel.mkStr ..))
theorem EV_bool {b : Bool} {k : Nat} {p : Pos} : c.EV (.Constant (.bool b) k p) σ (.bool b) σ := fun _ _ s x h =>
  Constant_bool (h _ _ x Sub.rfl (VRel.mkBool ..))
theorem EV_none {k : Nat} {p : Pos} : c.EV (.Constant .none k p) σ .none σ := fun _ _ s x h =>
  Constant_none (h _ _ x Sub.rfl VRel.mkNone)

-- names
theorem EV_local {x : Str} {p : Pos} {d : AV} (hv : σ.loc x = some d) (hk : c.env.scope.kind = .function := by rfl) (hl : c.env.kindOf x = some .local := by rfl) (hd : (x == ("__debug__" : Str)) = false := by decide) :
    c.EV (.Name x p) σ d σ := fun _ _ s y h => by
  obtain ⟨mc, hn, r⟩ := y.ns
  obtain ⟨v, hm, hr⟩ := r x d hv
  exact wpAny_Name (wpAny_loadName_local hk hl hn hm (h _ _ y Sub.rfl hr)) hd

/-- what is known of the globals and the built-in names -/
structure Gb (S₀ : Shared) (mg mb : Str → Option Value) : Prop where
  g : S₀.heap.Ns mainGlobals mg
  b : S₀.heap.Ns builtinsNs mb
  nolimit : S₀.heap.NoLimit

theorem EV_global {x : Str} {p : Pos} {v : Value} {mg mb : Str → Option Value} (G : Gb c.S₀ mg mb) (hv : mg x = some v) (hg : c.env.globals = mainGlobals := by rfl) (hk : c.env.scope.kind = .function := by rfl)
    (hl : c.env.kindOf x = some .globalImplicit := by rfl) (hd : (x == ("__debug__" : Str)) = false := by decide) : c.EV (.Name x p) σ (.raw v) σ := fun _ _ s y h =>
  Name_function_global hk hl (loadGlobal_global (env := c.env) (by rw [hg]; exact G.g.keeps y.base) hv (h _ _ y Sub.rfl rfl)) hd
theorem EV_builtin {x : Str} {p : Pos} {v : Value} {mg mb : Str → Option Value} (G : Gb c.S₀ mg mb) (hn : mg x = .none) (hv : mb x = some v) (hg : c.env.globals = mainGlobals := by rfl) (hb : c.env.builtins = builtinsNs := by rfl) (hk : c.env.scope.kind = .function := by rfl)
    (hl : c.env.kindOf x = some .globalImplicit := by rfl) (hd : (x == ("__debug__" : Str)) = false := by decide) : c.EV (.Name x p) σ (.raw v) σ := fun _ _ s y h =>
  Name_function_global hk hl (loadGlobal_builtin (env := c.env) (by rw [hg]; exact G.g.keeps y.base) hn (by rw [hb]; exact G.b.keeps y.base) hv (h _ _ y Sub.rfl rfl)) hd

-- operators
theorem EV_bin {l r : Expr} {op : Operator} {p : Pos} {d₁ d₂ d : AV} (hl : c.EV l σ d₁ σ₁) (hr : c.EV r σ₁ d₂ σ₂) (ho : c.OP2 (binaryOp op) d₁ d₂ σ₂ d σ₃) : c.EV (.BinOp l op r p) σ d σ₃ := fun _ _ s x h =>
  wpAny_BinOp (hl _ _ s x fun v s₁ x₁ k₁ r₁ => hr _ _ s₁ x₁ fun u s₂ x₂ k₂ r₂ => ho _ _ s₂ v u x₂ (r₁.mono k₂) r₂ fun r' s₃ x₃ k₃ r₃ => h r' s₃ x₃ ((k₁.trans k₂).trans k₃) r₃)
theorem EV_cmp {l r : Expr} {op : CmpOp} {p : Pos} {d₁ d₂ d : AV} (hl : c.EV l σ d₁ σ₁) (hr : c.EV r σ₁ d₂ σ₂) (ho : c.OP2 (compareOp op) d₁ d₂ σ₂ d σ₃)
    (hm : behindInMarks op r = false := by with_unfolding_all rfl) : c.EV (.Compare l [op] [r] p) σ d σ₃ := fun _ _ s x h =>
  wpAny_Compare1 (hl _ _ s x fun v s₁ x₁ k₁ r₁ => hr _ _ s₁ x₁ fun u s₂ x₂ k₂ r₂ => ho _ _ s₂ v u x₂ (r₁.mono k₂) r₂ fun r' s₃ x₃ k₃ r₃ => h r' s₃ x₃ ((k₁.trans k₂).trans k₃) r₃) hm
theorem TV_cmp {l r : Expr} {op : CmpOp} {p : Pos} {d₁ d₂ : AV} {b : Bool} (hl : c.EV l σ d₁ σ₁) (hr : c.EV r σ₁ d₂ σ₂) (ho : c.OP2 (compareOp op) d₁ d₂ σ₂ (.bool b) σ₃)
    (hm : behindInMarks op r = false := by with_unfolding_all rfl) : c.TV (.Compare l [op] [r] p) σ b σ₃ := fun _ _ s x h =>
  wpAny_isTrue_Compare1 (hl _ _ s x fun v s₁ x₁ k₁ r₁ => hr _ _ s₁ x₁ fun u s₂ x₂ k₂ r₂ => ho _ _ s₂ v u x₂ (r₁.mono k₂) r₂ fun r' s₃ x₃ k₃ r₃ => by
    obtain rfl := r₃.bool
    exact wpAny_truthy_bool (h s₃ x₃ ((k₁.trans k₂).trans k₃))) hm
theorem EV_una {e : Expr} {op : UnaryOp} {p : Pos} {d d' : AV} (he : c.EV e σ d σ₁) (ho : c.OP1 (unaryOp op) d σ₁ d' σ₂) : c.EV (.UnaryOp op e p) σ d' σ₂ := fun _ _ s x h =>
  UnaryOp_ (he _ _ s x fun v s₁ x₁ k₁ r₁ => ho _ _ s₁ v x₁ r₁ fun r' s₂ x₂ k₂ r₂ => h r' s₂ x₂ (k₁.trans k₂) r₂)
theorem OP_neg {i : Int} : c.OP1 (unaryOp .USub) (.int i) σ (.int (-i)) σ := fun _ _ s v x r h => by
  obtain ⟨t, rfl⟩ := r.int
  exact neg_int (h _ _ (x.toks _) Sub.rfl (VRel.mkInt ..))

section
variable {i j : Int}
theorem OP_add : c.OP2 (binaryOp .Add) (.int i) (.int j) σ (.int (i + j)) σ := fun _ _ s v u x r₁ r₂ h => by
  obtain ⟨t, rfl⟩ := r₁.int; obtain ⟨t', rfl⟩ := r₂.int
  exact add_int (h _ _ (x.toks _) Sub.rfl (VRel.mkInt ..))
theorem OP_sub : c.OP2 (binaryOp .Sub) (.int i) (.int j) σ (.int (i - j)) σ := fun _ _ s v u x r₁ r₂ h => by
  obtain ⟨t, rfl⟩ := r₁.int; obtain ⟨t', rfl⟩ := r₂.int
  exact sub_int (h _ _ (x.toks _) Sub.rfl (VRel.mkInt ..))
theorem OP_mul (hm : IntMulOk i j) : c.OP2 (binaryOp .Mult) (.int i) (.int j) σ (.int (i * j)) σ := fun _ _ s v u x r₁ r₂ h => by
  obtain ⟨t, rfl⟩ := r₁.int; obtain ⟨t', rfl⟩ := r₂.int
  exact mul_int (h _ _ (x.toks _) Sub.rfl (VRel.mkInt ..)) hm
theorem OP_mod (hj : j ≠ 0) : c.OP2 (binaryOp .Mod) (.int i) (.int j) σ (.int (i.fmod j)) σ := fun _ _ s v u x r₁ r₂ h => by
  obtain ⟨t, rfl⟩ := r₁.int; obtain ⟨t', rfl⟩ := r₂.int
  exact mod_int hj (h _ _ (x.toks _) Sub.rfl (VRel.mkInt ..))
theorem OP_fdiv (hj : j ≠ 0) (hp : Builtin.divisionGoesByPylong i j = false) : c.OP2 (binaryOp .FloorDiv) (.int i) (.int j) σ (.int (i.fdiv j)) σ := fun _ _ s v u x r₁ r₂ h => by
  obtain ⟨t, rfl⟩ := r₁.int; obtain ⟨t', rfl⟩ := r₂.int
  exact floordiv_int hj (h _ _ (x.toks _) Sub.rfl (VRel.mkInt ..)) (.inl hp)
theorem OP_shr (hj : 0 ≤ j) : c.OP2 (binaryOp .RShift) (.int i) (.int j) σ (.int (i.fdiv (2 ^ j.toNat))) σ := fun _ _ s v u x r₁ r₂ h => by
  obtain ⟨t, rfl⟩ := r₁.int; obtain ⟨t', rfl⟩ := r₂.int
  exact rshift_int hj (h _ _ (x.toks _) Sub.rfl (VRel.mkInt ..))
theorem OP_lt : c.OP2 (compareOp .Lt) (.int i) (.int j) σ (.bool (decide (i < j))) σ := fun _ _ s v u x r₁ r₂ h => by
  obtain ⟨t, rfl⟩ := r₁.int; obtain ⟨t', rfl⟩ := r₂.int
  exact lt_int (h _ _ x Sub.rfl (VRel.mkBool ..))
theorem OP_gt : c.OP2 (compareOp .Gt) (.int i) (.int j) σ (.bool (decide (j < i))) σ := fun _ _ s v u x r₁ r₂ h => by
  obtain ⟨t, rfl⟩ := r₁.int; obtain ⟨t', rfl⟩ := r₂.int
  exact gt_int (h _ _ x Sub.rfl (VRel.mkBool ..))
theorem OP_le : c.OP2 (compareOp .LtE) (.int i) (.int j) σ (.bool (decide (i ≤ j))) σ := fun _ _ s v u x r₁ r₂ h => by
  obtain ⟨t, rfl⟩ := r₁.int; obtain ⟨t', rfl⟩ := r₂.int
  exact le_int (h _ _ x Sub.rfl (VRel.mkBool ..))
end
theorem OP_addStr {x y : Str} (hsz : x.length + y.length ≤ sizeLine) : c.OP2 (binaryOp .Add) (.str x) (.str y) σ (.str (x ++ y)) σ := fun _ _ s v u z r₁ r₂ h => by
  obtain ⟨t, rfl⟩ := r₁.str; obtain ⟨t', rfl⟩ := r₂.str
  exact add_str (fun t' tk => h _ _ (z.toks _) Sub.rfl (VRel.mkStr ..)) hsz

-- equality, membership of data
theorem Reads.here {g : Heap} {s : Shared} {v : Value} {d : PyData} {as : List Addr} (k : Sub g s.heap) (r : Reads g v d as) : Reads s.heap v d as := Reads.keeps k r
theorem OP_eq {d e : PyData} (hd : d.canLay0 = true) (he : e.canLay0 = true) (hu : c.A.units + min d.depth e.depth < cLine) : c.OP2 (compareOp .Eq) (.dat d) (.dat e) σ (.bool (PyData.eqv d e)) σ := fun _ _ s v u x r₁ r₂ h => by
  obtain ⟨as, q₁⟩ := r₁; obtain ⟨bs, q₂⟩ := r₂
  exact SeqAt.compareEq_reads (Reads.keeps x.sub_heap q₁) (Reads.keeps x.sub_heap q₂) hd he hu (h _ _ x Sub.rfl (VRel.mkBool ..))
theorem OP_ne {d e : PyData} (hd : d.canLay0 = true) (he : e.canLay0 = true) (hu : c.A.units + min d.depth e.depth < cLine) : c.OP2 (compareOp .NotEq) (.dat d) (.dat e) σ (.bool (!PyData.eqv d e)) σ := fun _ _ s v u x r₁ r₂ h => by
  obtain ⟨as, q₁⟩ := r₁; obtain ⟨bs, q₂⟩ := r₂
  exact SeqAt.compareNe_reads (Reads.keeps x.sub_heap q₁) (Reads.keeps x.sub_heap q₂) hd he hu (h _ _ x Sub.rfl (VRel.mkBool ..))
end
end Mine

end

noncomputable section
open PySem PySem.W PyProof.Rows PySem.Calls
set_option Elab.async false
set_option linter.unusedVariables false
namespace Mine

section
variable {c : Cx} {σ σ₁ σ₂ σ₃ σ₄ : AS}

/-- the arguments, in order -/
def Cx.EVs (c : Cx) (es : List Expr) (σ : AS) (ds : List AV) (σ' : AS) : Prop :=
  ∀ (p : Pos) (E : Value → Shared → Prop) (Q : List Value → Shared → Prop) (s : Shared), c.St σ s → (∀ vs s', c.St σ' s' → Sub (c.fz σ s) (c.fz σ' s') → VRels (c.fz σ' s') vs ds → Q vs s') →
    c.wp (spliced (backTo p (starEach es c.env))) Q E s
theorem EVs_nil : c.EVs [] σ [] σ := fun p E Q s x h => spliced_nil (h _ _ x Sub.rfl trivial)
theorem EVs_cons {e : Expr} {es : List Expr} {d : AV} {ds : List AV} (he : c.EV e σ d σ₁) (hes : c.EVs es σ₁ ds σ₂) (hst : starEach (e :: es) c.env = (false, eval e c.env) :: starEach es c.env := by rfl) :
    c.EVs (e :: es) σ (d :: ds) σ₂ := fun p E Q s x h => by
  rw [hst]
  show wpAny _ _ (spliced ((false, eval e c.env) :: backTo p (starEach es c.env))) Q E s
  exact spliced_cons (he _ _ s x fun v s₁ x₁ k₁ r₁ => hes p _ _ s₁ x₁ fun vs s₂ x₂ k₂ r₂ => h _ _ x₂ (k₁.trans k₂) ⟨r₁.mono k₂, r₂⟩)

theorem backTo_plain (p : Pos) (es : List Expr) (env : Env) (h : (starEach es env).any (·.1) = false) : (backTo p (starEach es env)).any (·.1) = false := by
  unfold backTo
  rw [List.any_map]
  exact h

theorem St.notIn {S₀ : Shared} {L : Addr} {τ : AS} {s : Shared} (x : St S₀ L τ s) : s.heap.objs.size ∉ dom L τ := fun hb => by
  obtain ⟨o, e⟩ := x.live _ hb
  exact absurd (Heap.lt_size e) (Nat.lt_irrefl _)

/-- a new object that nothing will change -/
theorem St.frozen {S₀ : Shared} {L : Addr} {τ : AS} {s : Shared} (x : St S₀ L τ s) (o : Obj) (hf : o.isFreed = false) (tk : Nat) :
    St S₀ L τ { s with heap := s.heap.push o, toks := tk } ∧ Sub (frzS L τ s) (frzS L τ { s with heap := s.heap.push o, toks := tk }) ∧ (frzS L τ { s with heap := s.heap.push o, toks := tk }).get? s.heap.objs.size = some o := by
  obtain ⟨a, b⟩ := x.grow (h' := s.heap.push o) (fun _ _ e => Heap.get?_push_of_some _ e) tk
  exact ⟨a, b, frz_get.mpr ⟨Heap.get?_push_size _ hf, x.notIn⟩⟩

theorem EV_tuple {es : List Expr} {k : Nat} {p : Pos} {ds : List PyData} (h : c.EVs es σ (ds.map .dat) σ₁) (hsz : ds.length ≤ 1000 := by simp) : c.EV (.Tuple es k p) σ (.dat (.tuple ds)) σ₁ := fun E Q s x hq =>
  Tuple_ (h p _ _ s x fun vs s₁ x₁ k₁ r₁ => by
    have hl : vs.length ≤ sizeLine := by rw [r₁.length, List.length_map, sizeLine_eq]; (first | lia | omega)
    obtain ⟨as, ra⟩ := VRels.reads r₁
    obtain ⟨a, b, g⟩ := x₁.frozen { cls := .type "tuple", data := .seq vs.toArray } rfl s₁.toks
    refine wpAny_newObj_type (hq _ _ a (k₁.trans b) ⟨_, .tuple g rfl rfl (ReadsAll.keeps b ra)⟩) (by show vs.toArray.size ≤ sizeLine; rw [List.size_toArray]; exact hl))
theorem EV_list {es : List Expr} {p : Pos} {ds : List PyData} (h : c.EVs es σ (ds.map .dat) σ₁) (hsz : ds.length ≤ 1000 := by simp) : c.EV (.List es p) σ (.dat (.list ds)) σ₁ := fun E Q s x hq =>
  List_ (h p _ _ s x fun vs s₁ x₁ k₁ r₁ => by
    have hl : vs.length ≤ sizeLine := by rw [r₁.length, List.length_map, sizeLine_eq]; (first | lia | omega)
    obtain ⟨as, ra⟩ := VRels.reads r₁
    obtain ⟨a, b, g⟩ := x₁.frozen { cls := .type "list", data := .seq vs.toArray } rfl s₁.toks
    refine wpAny_newObj_type (hq _ _ a (k₁.trans b) ⟨_, .list g rfl rfl (ReadsAll.keeps b ra)⟩) (by show vs.toArray.size ≤ sizeLine; rw [List.size_toArray]; exact hl))

-- subscripts
theorem EV_sub {value slice : Expr} {p : Pos} {d₁ d₂ d : AV} (hv : c.EV value σ d₁ σ₁) (hs : c.EV slice σ₁ d₂ σ₂) (ho : c.OP2 (subscriptTail value slice) d₁ d₂ σ₂ d σ₃) : c.EV (.Subscript value slice p) σ d σ₃ := fun _ _ s x h =>
  Subscript_ (hv _ _ s x fun v s₁ x₁ k₁ r₁ => hs _ _ s₁ x₁ fun u s₂ x₂ k₂ r₂ => ho _ _ s₂ v u x₂ (r₁.mono k₂) r₂ fun r' s₃ x₃ k₃ r₃ => h r' s₃ x₃ ((k₁.trans k₂).trans k₃) r₃)

theorem readsAll_get {g : Heap} {vs : List Value} {ds : List PyData} {as : List Addr} {i : Nat} {d : PyData} (h : ReadsAll g vs ds as) (e : ds[i]? = some d) : ∃ v bs, vs[i]? = some v ∧ Reads g v d bs := by
  have r := VRels.of_reads h
  obtain ⟨v, a, bs, b⟩ := r.get (i := i) (d := .dat d) (by rw [List.getElem?_map, e]; rfl)
  exact ⟨v, bs, a, b⟩

theorem OP_itemList {value slice : Expr} {ds : List PyData} {k : Int} {d : PyData} (h0 : 0 ≤ k) (hx : ds[k.toNat]? = some d) (hk : k < 2 ^ 63)
    (hs : ∀ a u, subscripted slice false (.ref a) (.int k u) = operate [.ref a, .int k u] (getItem (.ref a) (.int k u)) := by intro _ _; with_unfolding_all rfl) :
    c.OP2 (subscriptTail value slice) (.dat (.list ds)) (.int k) σ (.dat d) σ := fun _ _ s v u x r₁ r₂ h => by
  obtain ⟨as, r⟩ := r₁; obtain ⟨t, rfl⟩ := r₂.int
  cases r with
  | @list a o vs n _ as h1 h2 h3 h4 =>
    obtain ⟨v, bs, e1, r'⟩ := readsAll_get h4 hx
    have hl : s.heap.IsList a vs := ⟨o, x.sub_heap _ _ h1, h2, n, h3⟩
    exact tail_any hl.typeIs slot_list_getitem.lookup (wpAny_getItem_list hl h0 hk (by simpa using e1) (h _ _ x Sub.rfl ⟨_, r'⟩)) (hs a t)
theorem OP_itemTup {value slice : Expr} {ds : List PyData} {k : Int} {d : PyData} {j : Nat} (hj : seqIndex? k ds.length = some j) (hx : ds[j]? = some d) (hlo : -(2 ^ 63) ≤ k := by decide) (hk : k < 2 ^ 63 := by decide)
    (hs : ∀ a u, subscripted slice false (.ref a) (.int k u) = operate [.ref a, .int k u] (getItem (.ref a) (.int k u)) := by intro _ _; with_unfolding_all rfl) :
    c.OP2 (subscriptTail value slice) (.dat (.tuple ds)) (.int k) σ (.dat d) σ := fun _ _ s v u x r₁ r₂ h => by
  obtain ⟨as, r⟩ := r₁; obtain ⟨t, rfl⟩ := r₂.int
  cases r with
  | @tuple a o vs n _ as h1 h2 h3 h4 =>
    obtain ⟨v, bs, e1, r'⟩ := readsAll_get h4 hx
    have hl : IsTup s.heap a vs.toList.toArray := ⟨o, x.sub_heap _ _ h1, h2, n, by simpa using h3⟩
    have hlen := VRels.length (VRels.of_reads h4)
    rw [List.length_map] at hlen
    exact item_tupleT hl hlo hk (by rw [hlen]; exact hj) e1 (h _ _ x Sub.rfl ⟨_, r'⟩) (hs a t)
theorem OP_itemStr {value slice : Expr} {y : Str} {k : Int} {j : Nat} {ch : Nat} (hj : seqIndex? k y.length = some j) (hx : y.cps[j]? = some ch) (hlo : -(2 ^ 63) ≤ k) (hk : k < 2 ^ 63)
    (hs : ∀ a u t, subscripted slice false (.str a t) (.int k u) = operate [.str a t, .int k u] (getItem (.str a t) (.int k u)) := by intro _ _ _; with_unfolding_all rfl) :
    c.OP2 (subscriptTail value slice) (.str y) (.int k) σ (.str ⟨#[ch]⟩) σ := fun _ _ s v u x r₁ r₂ h => by
  obtain ⟨t', rfl⟩ := r₁.str; obtain ⟨t, rfl⟩ := r₂.int
  exact tail_any (typeIs_str s y t') slot_str_getitem.lookup (getItem_str (by simp only [Bool.or_eq_false_iff, decide_eq_false_iff_not]; (first | lia | omega)) (by rw [hj]; exact hx) (h _ _ (x.toks _) Sub.rfl (VRel.mkStr ..))) (hs y t t')
theorem cell_at {c : Cx} {σ : AS} {s : Shared} {a : Addr} {k : ACell} (x : c.St σ s) (hm : (a, k) ∈ σ.mem) : k.At (c.fz σ s) s.heap a := x.mem (a, k) (List.mem_append_left _ hm)
theorem OP_itemCell {value slice : Expr} {a : Addr} {ds : List AV} {k : Int} {d : AV} (hm : (a, .list ds) ∈ σ.mem) (h0 : 0 ≤ k) (hx : ds[k.toNat]? = some d) (hk : k < 2 ^ 63)
    (hs : ∀ a u, subscripted slice false (.ref a) (.int k u) = operate [.ref a, .int k u] (getItem (.ref a) (.int k u)) := by intro _ _; with_unfolding_all rfl) :
    c.OP2 (subscriptTail value slice) (.raw (.ref a)) (.int k) σ d σ := fun _ _ s v u x r₁ r₂ h => by
  obtain rfl : v = .ref a := r₁
  obtain ⟨t, rfl⟩ := r₂.int
  obtain ⟨vs, n, e, r⟩ := cell_at x hm
  obtain ⟨v, e1, r'⟩ := r.get hx
  have hl : s.heap.IsList a vs.toArray := ⟨_, e, rfl, n, rfl⟩
  exact tail_any hl.typeIs slot_list_getitem.lookup (wpAny_getItem_list hl h0 hk (by simpa using e1) (h _ _ x Sub.rfl r')) (hs a t)
theorem OP_lastCell {value slice : Expr} {a : Addr} {ds : List AV} {d : AV} (hm : (a, .list ds) ∈ σ.mem) (hx : ds.getLast? = some d) (hz : ds.length < 1000000)
    (hs : ∀ a u, subscripted slice false (.ref a) (.int (-1) u) = operate [.ref a, .int (-1) u] (getItem (.ref a) (.int (-1) u)) := by intro _ _; with_unfolding_all rfl) :
    c.OP2 (subscriptTail value slice) (.raw (.ref a)) (.int (-1)) σ d σ := fun _ _ s v u x r₁ r₂ h => by
  obtain rfl : v = .ref a := r₁
  obtain ⟨t, rfl⟩ := r₂.int
  obtain ⟨vs, n, e, r⟩ := cell_at x hm
  have hne : 0 < ds.length := by cases ds with | nil => cases hx | cons _ _ => simp
  obtain ⟨v, e1, r'⟩ := r.get (i := ds.length - 1) (d := d) (by rw [← hx, List.getLast?_eq_getElem?])
  have hl : s.heap.IsList a vs.toArray := ⟨_, e, rfl, n, rfl⟩
  have hlen := r.length
  refine tail_any hl.typeIs slot_list_getitem.lookup (wpAny_getItem_list_neg (k := -1) hl (by decide) (by simp only [List.size_toArray]; (first | lia | omega)) (by decide) ?_ (h _ _ x Sub.rfl r')) (hs a t)
  have : (-1 + ((vs.toArray.size : Nat) : Int)).toNat = ds.length - 1 := by simp only [List.size_toArray]; (first | lia | omega)
  rw [this]; simpa using e1
theorem OP_itemDict {value slice : Expr} {a : Addr} {n : Nat} {m : Int → Option AV} {k : Int} {d : AV} (hm : (a, .dict n m) ∈ σ.mem) (hx : m k = some d)
    (hs : ∀ a u, subscripted slice false (.ref a) (.int k u) = operate [.ref a, .int k u] (getItem (.ref a) (.int k u)) := by intro _ _; with_unfolding_all rfl) :
    c.OP2 (subscriptTail value slice) (.raw (.ref a)) (.int k) σ d σ := fun _ _ s v u x r₁ r₂ h => by
  obtain rfl : v = .ref a := r₁
  obtain ⟨t, rfl⟩ := r₂.int
  obtain ⟨_, mc, e, r⟩ := cell_at x hm
  obtain ⟨v, e1, r'⟩ := r k d hx
  exact tail_any e.typeIs slot_dict_getitem.lookup (wpAny_getItem_intMap e e1 (h _ _ (x.toks _) Sub.rfl r')) (hs a t)
end
end Mine

end

noncomputable section
open PySem PySem.W PyProof.Rows PySem.Calls
set_option Elab.async false
set_option linter.unusedVariables false
namespace Mine

section
variable {c : Cx} {σ σ₁ σ₂ σ₃ σ₄ : AS}

-- calls
theorem evalArgs_of {M : Model} {A : Around} {E : Value → Shared → Prop} {s : Shared} {f : Value} {p : Pos} {es : List Expr} {env : Env} {Q : Args → Shared → Prop} (hne : ∃ x rest, backTo p (starEach es env) = (false, x) :: rest)
    (h : wpAny M A (spliced (backTo p (starEach es env))) (fun vs s' => Q ⟨vs, []⟩ s') E s) : wpAny M A (evalArgs f true (backTo p (starEach es env)) []) Q E s := by
  obtain ⟨x, rest, e1⟩ := hne
  rw [e1] at h ⊢
  exact evalArgs_plain h
theorem EV_call {f : Str} {fp p : Pos} {args : List Expr} {fv : Value} {ds : List AV} {d : AV} (hf : c.EV (.Name f fp) σ (.raw fv) σ₁) (ha : c.EVs args σ₁ ds σ₂)
    (ho : c.OPs (fun vs => call fv vs) ds σ₂ d σ₃)
    (hc : ∀ (Q E : Value → Shared → Prop) (s : Shared), wpAny (model c.prog c.w) c.A (evalArgs fv true (backTo p (starEach args c.env)) []) (fun a s₁ => c.S₀.heap.StaysIn s₁.heap ∧ wpAny (model c.prog c.w) c.A (call fv a.pos a.kw) Q E s₁) E s →
      wpAny (model c.prog c.w) c.A (callWith p fv [] (backTo p (starEach args c.env)) []) Q E s)
    (hne : ∃ x rest, backTo p (starEach args c.env) = (false, x) :: rest := by exact ⟨_, _, rfl⟩) :
    c.EV (.Call (.Name f fp) args [] p) σ d σ₃ := fun E Q s x h =>
  wpAny_Call_NameR (hf _ _ s x fun v s₁ x₁ k₁ r₁ => by
    obtain rfl : v = fv := r₁
    exact hc _ _ _ (evalArgs_of hne (ha p _ _ s₁ x₁ fun vs s₂ x₂ k₂ r₂ => ⟨x₂.base, ho _ _ s₂ vs x₂ r₂ fun r' s₃ x₃ k₃ r₃ => h r' s₃ x₃ ((k₁.trans k₂).trans k₃) r₃⟩)))
theorem EV_callB {f : Str} {fp p : Pos} {args : List Expr} {id : String} {ds : List AV} {d : AV} (hf : c.EV (.Name f fp) σ (.raw (.builtin id)) σ₁) (ha : c.EVs args σ₁ ds σ₂) (ho : c.OPs (fun vs => call (.builtin id) vs) ds σ₂ d σ₃)
    (hp : (starEach args c.env).any (·.1) = false := by rfl)
    (hne : ∃ x rest, backTo p (starEach args c.env) = (false, x) :: rest := by exact ⟨_, _, rfl⟩) :
    c.EV (.Call (.Name f fp) args [] p) σ d σ₃ :=
  EV_call hf ha ho (fun Q E s h => callWith_builtin (backTo_plain _ _ _ hp) (wpAny_mono h (fun _ _ q => q.2) fun _ _ q => q)) hne
theorem EV_callT {f : Str} {fp p : Pos} {args : List Expr} {T : String} {ds : List AV} {d : AV} (hf : c.EV (.Name f fp) σ (.raw (.type T)) σ₁) (ha : c.EVs args σ₁ ds σ₂) (ho : c.OPs (fun vs => call (.type T) vs) ds σ₂ d σ₃)
    (hp : (starEach args c.env).any (·.1) = false := by rfl)
    (hne : ∃ x rest, backTo p (starEach args c.env) = (false, x) :: rest := by exact ⟨_, _, rfl⟩) :
    c.EV (.Call (.Name f fp) args [] p) σ d σ₃ :=
  EV_call hf ha ho (fun Q E s h => PyProof.Rows.callWith_type (backTo_plain _ _ _ hp) (wpAny_mono h (fun _ _ q => q.2) fun _ _ q => q)) hne
theorem EV_callF {f : Str} {fp p : Pos} {args : List Expr} {a : Addr} {o : Obj} {fd : FuncData} {ds : List AV} {d : AV} (hf : c.EV (.Name f fp) σ (.raw (.ref a)) σ₁) (ha : c.EVs args σ₁ ds σ₂) (ho : c.OPs (fun vs => call (.ref a) vs) ds σ₂ d σ₃)
    (hfo : c.S₀.heap.get? a = some o) (hfd : o.data = .func fd)
    (hne : ∃ x rest, backTo p (starEach args c.env) = (false, x) :: rest := by exact ⟨_, _, rfl⟩) :
    c.EV (.Call (.Name f fp) args [] p) σ d σ₃ :=
  EV_call hf ha ho (fun Q E s h => callWith_function (o := o) (fd := fd) (wpAny_mono h (fun _ _ q => ⟨⟨q.1 _ _ hfo, hfd⟩, q.2⟩) fun _ _ q => q)) hne

-- truth
theorem TT_int {i : Int} : c.TT (.int i) σ (i != 0) := fun _ _ s v x r h => by
  obtain ⟨t, rfl⟩ := r.int
  exact PyProof.Rows.truthy_int (h _ x Sub.rfl)
theorem TT_bool {b : Bool} : c.TT (.bool b) σ b := fun _ _ s v x r h => by
  obtain rfl := r.bool
  exact wpAny_truthy_bool (h _ x Sub.rfl)
theorem TT_none : c.TT .none σ false := fun _ _ s v x r h => by
  obtain rfl := r.none
  exact truthy_none (h _ x Sub.rfl)
theorem TT_str {y : Str} (hz : y.length < 1000000) : c.TT (.str y) σ ((y.length : Int) != 0) := fun _ _ s v x r h => by
  obtain ⟨t, rfl⟩ := r.str
  exact P.truthy_str (by (first | lia | omega)) (h _ (x.toks _) Sub.rfl)
theorem TT_list {ds : List PyData} (hz : ds.length < 1000000) : c.TT (.dat (.list ds)) σ (!ds.isEmpty) := fun _ _ s v x r h => by
  obtain ⟨as, r⟩ := r
  cases r with
  | @list a o vs n _ as h1 h2 h3 h4 =>
    have hlen := VRels.length (VRels.of_reads h4)
    rw [List.length_map] at hlen
    have hl : s.heap.IsList a vs := ⟨o, x.sub_heap _ _ h1, h2, n, h3⟩
    have hsz : vs.size = ds.length := by rw [← hlen]; simp
    refine wpAny_truthy_list hl (by rw [hsz]; (first | lia | omega)) ?_
    have he : vs.isEmpty = ds.isEmpty := by rw [Array.isEmpty, hsz]; cases ds <;> simp
    rw [he]
    exact h _ (x.toks _) Sub.rfl
theorem TT_cell {a : Addr} {ds : List AV} (hm : (a, .list ds) ∈ σ.mem) (hz : ds.length < 1000000) : c.TT (.raw (.ref a)) σ (!ds.isEmpty) := fun _ _ s v x r h => by
  obtain rfl : v = .ref a := r
  obtain ⟨vs, n, e, r⟩ := cell_at x hm
  have hl : s.heap.IsList a vs.toArray := ⟨_, e, rfl, n, rfl⟩
  have hlen := r.length
  refine wpAny_truthy_list hl (by simp only [List.size_toArray]; (first | lia | omega)) ?_
  have he : vs.toArray.isEmpty = ds.isEmpty := by cases vs <;> cases ds <;> simp_all
  rw [he]
  exact h _ (x.toks _) Sub.rfl

theorem TV_plain {e : Expr} {d : AV} {b : Bool} (he : c.EV e σ d σ₁) (ht : c.TT d σ₁ b)
    (hi : isTrue e c.env (eval e c.env) = (do let v ← eval e c.env; standAt e.pos; holding [v] (truthy v)) := by rfl) : c.TV e σ b σ₁ := fun E Q s x h =>
  isTrue_plain (he _ _ s x fun v s₁ x₁ k₁ r₁ => ht _ _ s₁ v x₁ r₁ fun s₂ x₂ k₂ => h s₂ x₂ (k₁.trans k₂)) hi
theorem TV_not {e : Expr} {p : Pos} {b : Bool} (h : c.TV e σ b σ₁) : c.TV (.UnaryOp .Not e p) σ (!b) σ₁ := fun E Q s x hq =>
  isTrue_not (h _ _ s x fun s₁ x₁ k₁ => hq s₁ x₁ k₁)
theorem TV_and_t {e : Expr} {es : List Expr} {p : Pos} {b : Bool} (h : c.TV e σ true σ₁) (hr : c.TV (.BoolOp .And es p) σ₁ b σ₂) : c.TV (.BoolOp .And (e :: es) p) σ b σ₂ := fun E Q s x hq =>
  isTrue_and (h _ _ s x fun s₁ x₁ k₁ => by rw [if_pos rfl]; exact hr _ _ s₁ x₁ fun s₂ x₂ k₂ => hq s₂ x₂ (k₁.trans k₂))
theorem TV_and_f {e : Expr} {es : List Expr} {p : Pos} (h : c.TV e σ false σ₁) : c.TV (.BoolOp .And (e :: es) p) σ false σ₁ := fun E Q s x hq =>
  isTrue_and (h _ _ s x fun s₁ x₁ k₁ => by rw [if_neg (by decide)]; exact hq s₁ x₁ k₁)
theorem TV_and_nil {p : Pos} : c.TV (.BoolOp .And [] p) σ true σ := fun E Q s x hq => isTrue_and_nil (hq s x Sub.rfl)
theorem TV_or_t {e : Expr} {es : List Expr} {p : Pos} (h : c.TV e σ true σ₁) : c.TV (.BoolOp .Or (e :: es) p) σ true σ₁ := fun E Q s x hq =>
  isTrue_or (h _ _ s x fun s₁ x₁ k₁ => by rw [if_pos rfl]; exact hq s₁ x₁ k₁)
theorem TV_or_f {e : Expr} {es : List Expr} {p : Pos} {b : Bool} (h : c.TV e σ false σ₁) (hr : c.TV (.BoolOp .Or es p) σ₁ b σ₂) : c.TV (.BoolOp .Or (e :: es) p) σ b σ₂ := fun E Q s x hq =>
  isTrue_or (h _ _ s x fun s₁ x₁ k₁ => by rw [if_neg (by decide)]; exact hr _ _ s₁ x₁ fun s₂ x₂ k₂ => hq s₂ x₂ (k₁.trans k₂))
theorem TV_or_nil {p : Pos} : c.TV (.BoolOp .Or [] p) σ false σ := fun E Q s x hq => isTrue_or_nil (hq s x Sub.rfl)
/-- «a or b» as a value -/
theorem EV_or_t {e₁ e₂ : Expr} {p : Pos} {d : AV} (h : c.EV e₁ σ d σ₁) (ht : c.TT d σ₁ true) : c.EV (.BoolOp .Or [e₁, e₂] p) σ d σ₁ := fun E Q s x hq =>
  BoolOp_or (h _ _ s x fun v s₁ x₁ k₁ r₁ => ht _ _ s₁ v x₁ r₁ fun s₂ x₂ k₂ => by rw [if_pos rfl]; exact hq v s₂ x₂ (k₁.trans k₂) (r₁.mono k₂))
theorem EV_or_f {e₁ e₂ : Expr} {p : Pos} {d d' : AV} (h : c.EV e₁ σ d σ₁) (ht : c.TT d σ₁ false) (h2 : c.EV e₂ σ₁ d' σ₂) : c.EV (.BoolOp .Or [e₁, e₂] p) σ d' σ₂ := fun E Q s x hq =>
  BoolOp_or (h _ _ s x fun v s₁ x₁ k₁ r₁ => ht _ _ s₁ v x₁ r₁ fun s₂ x₂ k₂ => by rw [if_neg (by decide)]; exact BoolOp_one (h2 _ _ s₂ x₂ fun v' s₃ x₃ k₃ r₃ => hq v' s₃ x₃ ((k₁.trans k₂).trans k₃) r₃))
theorem EV_if {t a b : Expr} {p : Pos} {d : AV} {v : Bool} (ht : c.TV t σ v σ₁) (h1 : v = true → c.EV a σ₁ d σ₂) (h2 : v = false → c.EV b σ₁ d σ₂) : c.EV (.IfExp t a b p) σ d σ₂ := fun E Q s x hq =>
  IfExp_ (ht _ _ s x fun s₁ x₁ k₁ => by
    cases v with
    | true => rw [if_pos rfl]; exact h1 rfl _ _ s₁ x₁ fun v s₂ x₂ k₂ r₂ => hq v s₂ x₂ (k₁.trans k₂) r₂
    | false => rw [if_neg (by decide)]; exact h2 rfl _ _ s₁ x₁ fun v s₂ x₂ k₂ r₂ => hq v s₂ x₂ (k₁.trans k₂) r₂)
end
end Mine

end

noncomputable section
open PySem PySem.W PyProof.Rows PySem.Calls
set_option Elab.async false
set_option linter.unusedVariables false
namespace Mine

inductive AFl where
  | next | brk | cont
  | ret (d : AV)
def FRel (g : Heap) : Flow → AFl → Prop
  | .next, .next => True
  | .brk, .brk => True
  | .cont, .cont => True
  | .ret v, .ret d => VRel g v d
  | _, _ => False
theorem FRel.mono {g g' : Heap} {f : Flow} {a : AFl} (x : Sub g g') (h : FRel g f a) : FRel g' f a := by
  cases f <;> cases a <;> first | exact h | exact VRel.mono x h
theorem FRel.next {g : Heap} {f : Flow} (h : FRel g f .next) : f = .next := by cases f <;> first | rfl | exact h.elim
theorem FRel.brk {g : Heap} {f : Flow} (h : FRel g f .brk) : f = .brk := by cases f <;> first | rfl | exact h.elim
theorem FRel.cont {g : Heap} {f : Flow} (h : FRel g f .cont) : f = .cont := by cases f <;> first | rfl | exact h.elim
theorem FRel.ret {g : Heap} {f : Flow} {d : AV} (h : FRel g f (.ret d)) : ∃ v, f = .ret v ∧ VRel g v d := by cases f <;> first | exact ⟨_, rfl, h⟩ | exact h.elim

def AS.set (σ : AS) (x : Str) (d : AV) : AS := ⟨fun y => if y = x then some d else σ.loc y, σ.mem⟩
theorem AS.set_self {σ : AS} {x : Str} {d : AV} : (σ.set x d).loc x = some d := if_pos rfl
theorem AS.set_other {σ : AS} {x y : Str} {d e : AV} (h : y ≠ x) (he : σ.loc y = some e) : (σ.set x d).loc y = some e := (if_neg h).trans he

def Cx.EX (c : Cx) (ss : List Stmt) (σ : AS) (P : AFl → AS → Prop) : Prop :=
  ∀ (E : Value → Shared → Prop) (Q : Flow → Shared → Prop) (s : Shared), c.St σ s → (∀ f s' a σ', P a σ' → c.St σ' s' → Sub (c.fz σ s) (c.fz σ' s') → FRel (c.fz σ' s') f a → Q f s') → c.wp (execs ss c.env) Q E s
def Cx.E1 (c : Cx) (st : Stmt) (σ : AS) (P : AFl → AS → Prop) : Prop :=
  ∀ (E : Value → Shared → Prop) (Q : Flow → Shared → Prop) (s : Shared), c.St σ s → (∀ f s' a σ', P a σ' → c.St σ' s' → Sub (c.fz σ s) (c.fz σ' s') → FRel (c.fz σ' s') f a → Q f s') → c.wp (exec st c.env) Q E s
/-- what is wanted of a part, the rest behind it -/
def Cx.Then (c : Cx) (rest : List Stmt) (P : AFl → AS → Prop) : AFl → AS → Prop
  | .next, σ => c.EX rest σ P
  | a, σ => P a σ

section
variable {c : Cx} {σ σ₁ σ₂ σ₃ σ₄ : AS} {P : AFl → AS → Prop} {rest : List Stmt}
theorem EX_nil (h : P .next σ) : c.EX [] σ P := fun E Q s x hq => wpAny_execs_nil (hq _ _ _ _ h x Sub.rfl trivial)
theorem EX_cons {st : Stmt} (h : c.E1 st σ (c.Then rest P)) : c.EX (st :: rest) σ P := fun E Q s x hq =>
  wpAny_execs_cons (h _ _ s x fun f s' a σ' hp x' k' r' => by
    cases a with
    | next =>
      obtain rfl := r'.next
      exact hp _ _ s' x' fun f s₂ a₂ σ₂ hp₂ x₂ k₂ r₂ => hq f s₂ a₂ σ₂ hp₂ x₂ (k'.trans k₂) r₂
    | brk => obtain rfl := r'.brk; exact hq _ _ _ _ hp x' k' r'
    | cont => obtain rfl := r'.cont; exact hq _ _ _ _ hp x' k' r'
    | ret d => obtain ⟨v, rfl, r⟩ := r'.ret; exact hq _ _ _ _ hp x' k' r')
theorem EX_conseq {ss : List Stmt} {P' : AFl → AS → Prop} (h : c.EX ss σ P') (hp : ∀ a σ', P' a σ' → P a σ') : c.EX ss σ P := fun E Q s x hq =>
  h _ _ s x fun f s' a σ' hp' => hq f s' a σ' (hp a σ' hp')
/-- forget names and cells -/
theorem EX_less {ss : List Stmt} {σ' : AS} (hm : σ'.mem.Sublist σ.mem) (hl : ∀ y d, σ'.loc y = some d → σ.loc y = some d) (h : c.EX ss σ' P) : c.EX ss σ P := fun E Q s x hq => by
  obtain ⟨a, b⟩ := x.less (σ' := c.all σ') (List.Sublist.append_right hm c.fr) hl
  exact h _ _ s a fun f s' a σ' hp x' k' r' => hq f s' a σ' hp x' (b.trans k') r'

-- names stored
theorem store_local {x : Str} {d : AV} {E : Value → Shared → Prop} {Q : Unit → Shared → Prop} {s : Shared} {v : Value} (y : c.St σ s) (r : VRel (c.fz σ s) v d)
    (h : ∀ s', c.St (σ.set x d) s' → Sub (c.fz σ s) (c.fz (σ.set x d) s') → Q () s') (hk : c.env.scope.kind = .function) (hl : c.env.kindOf x = some .local) :
    c.wp (storeName c.env x v) Q E s := by
  obtain ⟨mc, hn, hr⟩ := y.ns
  refine wpAny_storeName_local hl hn (fun h' hn' hs' => ?_) (by rw [hk]; rfl)
  obtain ⟨a, b⟩ := y.setNs (m' := (σ.set x d).loc) hn' hs' (fun z e he => by
    by_cases hz : z = x
    · subst hz
      rw [AS.set_self] at he; cases he
      exact ⟨v, if_pos rfl, r⟩
    · rw [show (σ.set x d).loc z = σ.loc z from if_neg hz] at he
      obtain ⟨u, hu, ru⟩ := hr z e he
      exact ⟨u, (if_neg hz).trans hu, ru⟩) (s.toks + 1)
  exact h _ a b

theorem EX_assign {x : Str} {p p' : Pos} {e : Expr} {d : AV} (he : c.EV e σ d σ₁) (hr : c.EX rest (σ₁.set x d) P) (hk : c.env.scope.kind = .function := by rfl) (hl : c.env.kindOf x = some .local := by rfl)
    (hs : swapsWith e (some (.Name x p')) p.line c.env = pure false := by rfl) : c.EX (.Assign [.Name x p'] e p :: rest) σ P := EX_cons fun E Q s y hq =>
  wpAny_Assign_Name (he _ _ s y fun v s₁ y₁ k₁ r₁ => store_local y₁ r₁ (fun s₂ y₂ k₂ => hq .next _ .next _ hr y₂ (k₁.trans k₂) trivial) hk hl) hs
theorem EX_assign2 {x₁ x₂ : Str} {p p₁ p₂ : Pos} {e : Expr} {d : AV} (he : c.EV e σ d σ₁) (hr : c.EX rest ((σ₁.set x₁ d).set x₂ d) P) (hk : c.env.scope.kind = .function := by rfl) (hl₁ : c.env.kindOf x₁ = some .local := by rfl) (hl₂ : c.env.kindOf x₂ = some .local := by rfl)
    (ha : (assignEach [.Name x₁ p₁, .Name x₂ p₂] c.env).map (·.2) = [assign (.Name x₁ p₁) c.env, assign (.Name x₂ p₂) c.env] := by rfl) (hw : swappedStores [.Name x₁ p₁, .Name x₂ p₂] e c.env = pure none := by rfl) :
    c.EX (.Assign [.Name x₁ p₁, .Name x₂ p₂] e p :: rest) σ P := EX_cons fun E Q s y hq =>
  wpAny_Assign_two (he _ _ s y fun v s₁ y₁ k₁ r₁ => wpAny_assign_Name (store_local y₁ r₁ (fun s₂ y₂ k₂ => wpAny_assign_Name (store_local y₂ (r₁.mono k₂) (fun s₃ y₃ k₃ => hq .next _ .next _ hr y₃ ((k₁.trans k₂).trans k₃) trivial) hk hl₂)) hk hl₁)) ha hw
theorem EX_augAdd {x : Str} {p p' : Pos} {e : Expr} {i j : Int} (hx : σ.loc x = some (.int i)) (he : c.EV e σ (.int j) σ) (hr : c.EX rest (σ.set x (.int (i + j))) P) (hk : c.env.scope.kind = .function := by rfl) (hl : c.env.kindOf x = some .local := by rfl) :
    c.EX (.AugAssign (.Name x p') .Add e p :: rest) σ P := EX_cons fun E Q s y hq => by
  obtain ⟨mc, hn, hrel⟩ := y.ns
  obtain ⟨v, hm, r⟩ := hrel x _ hx
  obtain ⟨t, rfl⟩ := r.int
  refine wpAny_AugAssign_Name (wpAny_loadName_local hk hl hn hm (he _ _ s y fun v s₁ y₁ k₁ r₁ => ?_))
  obtain ⟨t', rfl⟩ := r₁.int
  exact iadd_int (store_local (y₁.toks _) (VRel.mkInt ..) (fun s₂ y₂ k₂ => hq .next _ .next _ hr y₂ (k₁.trans k₂) trivial) hk hl)
theorem EX_augSub {x : Str} {p p' : Pos} {e : Expr} {i j : Int} (hx : σ.loc x = some (.int i)) (he : c.EV e σ (.int j) σ) (hr : c.EX rest (σ.set x (.int (i - j))) P) (hk : c.env.scope.kind = .function := by rfl) (hl : c.env.kindOf x = some .local := by rfl) :
    c.EX (.AugAssign (.Name x p') .Sub e p :: rest) σ P := EX_cons fun E Q s y hq => by
  obtain ⟨mc, hn, hrel⟩ := y.ns
  obtain ⟨v, hm, r⟩ := hrel x _ hx
  obtain ⟨t, rfl⟩ := r.int
  refine wpAny_AugAssign_Name (wpAny_loadName_local hk hl hn hm (he _ _ s y fun v s₁ y₁ k₁ r₁ => ?_))
  obtain ⟨t', rfl⟩ := r₁.int
  exact PyProof.Rows.isub_int (store_local (y₁.toks _) (VRel.mkInt ..) (fun s₂ y₂ k₂ => hq .next _ .next _ hr y₂ (k₁.trans k₂) trivial) hk hl)
theorem EX_ret {e : Expr} {p : Pos} {d : AV} (he : c.EV e σ d σ₁) (h : P (.ret d) σ₁) : c.EX (.Return (some e) p :: rest) σ P := EX_cons fun E Q s y hq =>
  wpAny_Return_some (he _ _ s y fun v s₁ y₁ k₁ r₁ => hq _ _ (.ret d) _ h y₁ k₁ r₁)
theorem EX_expr {e : Expr} {p : Pos} (he : c.EV e σ .none σ₁) (hr : c.EX rest σ₁ P) (hi : interactive c.env = false := by rfl) (hs : swapsWith e none p.line c.env = pure false := by rfl) : c.EX (.Expr e p :: rest) σ P := EX_cons fun E Q s y hq =>
  wpAny_Expr (he _ _ s y fun v s₁ y₁ k₁ r₁ => by
    obtain rfl := r₁.none
    exact hq _ _ .next _ hr y₁ k₁ trivial) hi hs
theorem EX_brk {p : Pos} (h : P .brk σ) : c.EX (.Break p :: rest) σ P := EX_cons fun E Q s y hq => SiftDown.break_ (hq _ _ .brk _ h y Sub.rfl trivial)
theorem EX_cont {p : Pos} (h : P .cont σ) : c.EX (.Continue p :: rest) σ P := EX_cons fun E Q s y hq => SiftDown.continue_ (hq _ _ .cont _ h y Sub.rfl trivial)
theorem EX_if {t : Expr} {a b : List Stmt} {p : Pos} {v : Bool} (ht : c.TV t σ v σ₁) (h1 : v = true → c.EX a σ₁ (c.Then rest P)) (h2 : v = false → c.EX b σ₁ (c.Then rest P)) : c.EX (.If t a b p :: rest) σ P := EX_cons fun E Q s y hq =>
  wpAny_If (ht _ _ s y fun s₁ y₁ k₁ => by
    cases v with
    | true => rw [if_pos rfl]; exact h1 rfl _ _ s₁ y₁ fun f s₂ a σ₂ hp y₂ k₂ r₂ => hq f s₂ a σ₂ hp y₂ (k₁.trans k₂) r₂
    | false => rw [if_neg (by decide)]; exact h2 rfl _ _ s₁ y₁ fun f s₂ a σ₂ hp y₂ k₂ r₂ => hq f s₂ a σ₂ hp y₂ (k₁.trans k₂) r₂)

/-- what σ' tells, σ tells -/
def Le (σ' σ : AS) : Prop := (∃ m, σ.mem.Perm m ∧ σ'.mem.Sublist m) ∧ ∀ y d, σ'.loc y = some d → σ.loc y = some d
theorem Le.rfl {σ : AS} : Le σ σ := ⟨⟨_, .refl _, List.Sublist.refl _⟩, fun _ _ e => e⟩
theorem Le.st {σ' σ : AS} {s : Shared} (l : Le σ' σ) (x : c.St σ s) : c.St σ' s ∧ Sub (c.fz σ s) (c.fz σ' s) := by
  obtain ⟨⟨m, hp, hs⟩, hl⟩ := l
  obtain ⟨y, k, _⟩ := x.perm (m' := m ++ c.fr) (hp.append_right _)
  obtain ⟨z, q⟩ := y.less (σ' := c.all σ') (List.Sublist.append_right hs c.fr) hl
  exact ⟨z, k.trans q⟩
/-- names by a list -/
def mk (l : List (Str × AV)) (m : List (Addr × ACell)) : AS := ⟨fun x => l.lookup x, m⟩
def AllLoc (σ : AS) : List (Str × AV) → Prop
  | [] => True
  | (x, d) :: r => σ.loc x = some d ∧ AllLoc σ r
theorem AllLoc.le {σ : AS} : ∀ {l : List (Str × AV)}, AllLoc σ l → ∀ y d, l.lookup y = some d → σ.loc y = some d
  | [], _, _, _, e => by cases e
  | (x, d) :: r, h, y, e, he => by
    rw [List.lookup_cons] at he
    cases hy : y == x with
    | true =>
      rw [hy] at he
      obtain rfl : y = x := by simpa using hy
      cases he; exact h.1
    | false => rw [hy] at he; exact AllLoc.le h.2 y e he
theorem Le.mk {σ : AS} {l : List (Str × AV)} {m : List (Addr × ACell)} (h : AllLoc σ l) (hm : m.Sublist σ.mem := by exact List.Sublist.refl _) : Le (mk l m) σ := ⟨⟨_, .refl _, hm⟩, h.le⟩
theorem Le.mkP {σ : AS} {l : List (Str × AV)} {m : List (Addr × ACell)} (h : AllLoc σ l) (hm : σ.mem.Perm m) : Le (Mine.mk l m) σ := ⟨⟨_, hm, List.Sublist.refl _⟩, h.le⟩
theorem EX_le {ss : List Stmt} {σ' : AS} (l : Le σ' σ) (h : c.EX ss σ' P) : c.EX ss σ P := fun E Q s x hq => by
  obtain ⟨a, b⟩ := l.st x
  exact h _ _ s a fun f s' a σ' hp x' k' r' => hq f s' a σ' hp x' (b.trans k') r'

/-- while, by an invariant that counts down -/
def Cx.Turn (c : Cx) (rest : List Stmt) (P : AFl → AS → Prop) (I : AS → Prop) : AFl → AS → Prop
  | .next, σ => I σ
  | .cont, σ => I σ
  | .brk, σ => c.EX rest σ P
  | .ret d, σ => P (.ret d) σ
theorem EX_while {t : Expr} {body : List Stmt} {p : Pos} (I : Nat → AS → Prop)
    (turn : ∀ n σ, I n σ → ∃ v σ₁, c.TV t σ v σ₁ ∧ (v = true → c.EX body σ₁ (c.Turn rest P fun σ' => ∃ m σ'', m < n ∧ I m σ'' ∧ Le σ'' σ')) ∧ (v = false → c.EX rest σ₁ P))
    (n : Nat) {σ₀ : AS} (l : Le σ₀ σ) (h : I n σ₀) : c.EX (.While t body [] p :: rest) σ P := EX_le l (EX_cons fun E Q s y hq =>
  wpAny_While (codeAny_whileLoop (fun n s' => ∃ σ', I n σ' ∧ c.St σ' s' ∧ Sub (c.fz σ₀ s) (c.fz σ' s')) (fun n s' ⟨σ', hi, y', k'⟩ => by
    obtain ⟨v, σ₁, ht, h1, h2⟩ := turn n σ' hi
    refine ht _ _ s' y' fun s₁ y₁ k₁ => ?_
    cases v with
    | true =>
      rw [if_pos rfl]
      refine h1 rfl _ _ s₁ y₁ fun f s₂ a σ₂ hp y₂ k₂ r₂ => ?_
      have kk := (k'.trans k₁).trans k₂
      cases a with
      | next =>
        obtain rfl := r₂.next; obtain ⟨m, σ'', hm, hi', l'⟩ := hp
        obtain ⟨y₃, k₃⟩ := l'.st y₂
        exact ⟨m, hm, σ'', hi', y₃, kk.trans k₃⟩
      | cont =>
        obtain rfl := r₂.cont; obtain ⟨m, σ'', hm, hi', l'⟩ := hp
        obtain ⟨y₃, k₃⟩ := l'.st y₂
        exact ⟨m, hm, σ'', hi', y₃, kk.trans k₃⟩
      | brk => obtain rfl := r₂.brk; exact hq _ _ .next _ hp y₂ kk trivial
      | ret d => obtain ⟨v, rfl, r⟩ := r₂.ret; exact hq _ _ (.ret d) _ hp y₂ kk r
    | false =>
      rw [if_neg (by decide)]
      exact wpAny_execs_nil (hq _ _ .next _ (h2 rfl) y₁ (k'.trans k₁) trivial)) n ⟨σ₀, h, y, Sub.rfl⟩))
/-- the same, what a turn owes kept under a name -/
theorem EX_whileT {t : Expr} {body : List Stmt} {p : Pos} (I : Nat → AS → Prop)
    (turn : ∀ n σ (T : AFl → AS → Prop), (∀ a τ, c.Turn rest P (fun σ' => ∃ m σ'', m < n ∧ I m σ'' ∧ Le σ'' σ') a τ → T a τ) → I n σ → ∃ v σ₁, c.TV t σ v σ₁ ∧ (v = true → c.EX body σ₁ T) ∧ (v = false → c.EX rest σ₁ P))
    (n : Nat) {σ₀ : AS} (l : Le σ₀ σ) (h : I n σ₀) : c.EX (.While t body [] p :: rest) σ P := EX_while I (fun n σ hi => turn n σ _ (fun _ _ h => h) hi) n l h
end
end Mine

end

noncomputable section
open PySem PySem.W PyProof.Rows PySem.Calls
set_option Elab.async false
set_option linter.unusedVariables false
namespace Mine

/-- the i-th row of the text -/
def pst (i : Nat) : Stmt := PySem.Challenge.pw_ny0183_01.main.body.getD i (.Pass default)
def fdOf (st : Stmt) (qual : Str) (doc pm code ct : Value) (an : Option Addr) : FuncData := match st with
  | .FunctionDef name args body _ _ _ scope _ _ _ => { name, qualname := qual, params := args, body := .stmts body, scope, globals := mainGlobals, closure := [], defaults := .none, kwdefaults := .none, doc, pyModule := pm, annotations := an, code, closureTuple := ct, builtins := builtinsNs }
  | _ => default
def scOf (st : Stmt) : Scope := match st with
  | .FunctionDef _ _ _ _ _ _ scope _ _ _ => scope
  | _ => default
def bodyOf (st : Stmt) : List Stmt := match st with
  | .FunctionDef _ _ body _ _ _ _ _ _ _ => body
  | _ => []
def isDef : Stmt → Bool
  | .FunctionDef .. => true
  | _ => false
theorem fdOf_scope (st : Stmt) (qual : Str) (doc pm code ct : Value) (an : Option Addr) (h : isDef st = true) : (fdOf st qual doc pm code ct an).scope = scOf st := by
  cases st <;> first | rfl | cases h
theorem fdOf_body (st : Stmt) (qual : Str) (doc pm code ct : Value) (an : Option Addr) (h : isDef st = true) : (fdOf st qual doc pm code ct an).body = .stmts (bodyOf st) := by
  cases st <;> first | rfl | cases h
def FnAt (h : Heap) (a : Addr) (i : Nat) (fd : FuncData) : Prop :=
  (∃ qual doc pm code ct an, fd = fdOf (pst i) qual doc pm code ct an) ∧ h.CodeRec fd.code fd.qualname ∧ h.get? a = some { cls := .type "function", data := .func fd }

section
variable {S₀ : Shared} {L L' : Addr} {m : List (Addr × ACell)} {loc : Str → Option AV} {s : Shared}
theorem St.enter {h₁ : Heap} {mc : Str → Option Value} {loc' : Str → Option AV} (x : St S₀ L ⟨loc, m⟩ s) (k : Sub s.heap h₁) (hf : s.heap.get? L' = none) (hn : h₁.Ns L' mc) (r : NsRel (frzS L ⟨loc, m⟩ s) mc loc') (tk : Nat) :
    St S₀ L' ⟨loc', (L, .ns loc) :: m⟩ { s with heap := h₁, toks := tk } ∧ Sub (frzS L ⟨loc, m⟩ s) (frzS L' ⟨loc', (L, .ns loc) :: m⟩ { s with heap := h₁, toks := tk }) := by
  have hne : ∀ b o, s.heap.get? b = some o → b ≠ L' := fun b o e q => by rw [q, hf] at e; cases e
  have y : Sub (frzS L ⟨loc, m⟩ s) (frzS L' ⟨loc', (L, .ns loc) :: m⟩ { s with heap := h₁, toks := tk }) := frz_sub fun b o e n => ⟨k b o e, fun hb => by
    rcases List.mem_cons.mp hb with rfl | hb
    · exact hne _ o e rfl
    · exact n hb⟩
  refine ⟨⟨by obtain ⟨h, t, rfl⟩ := x.rest; exact ⟨h₁, tk, rfl⟩, x.keep.trans y, ?_, ⟨mc, hn, r.mono y⟩, fun p hp => ?_⟩, y⟩
  · have hl : L' ∉ dom L ⟨loc, m⟩ := fun hb => by obtain ⟨o, e⟩ := x.live _ hb; rw [hf] at e; cases e
    exact List.nodup_cons.mpr ⟨hl, x.nodup⟩
  · rcases List.mem_cons.mp hp with rfl | hp
    · obtain ⟨mc', n', r'⟩ := x.ns
      exact ⟨mc', n'.keeps k, r'.mono y⟩
    · exact (x.mem p hp).sub y k
theorem St.leave {loc' : Str → Option AV} (x : St S₀ L' ⟨loc', (L, .ns loc) :: m⟩ s) : St S₀ L ⟨loc, m⟩ s ∧ Sub (frzS L' ⟨loc', (L, .ns loc) :: m⟩ s) (frzS L ⟨loc, m⟩ s) := by
  have y : Sub (frzS L' ⟨loc', (L, .ns loc) :: m⟩ s) (frzS L ⟨loc, m⟩ s) := frz_sub fun b o e n => ⟨e, fun hb => n (.tail _ hb)⟩
  refine ⟨⟨x.rest, x.keep.trans y, (List.nodup_cons.mp x.nodup).2, ?_, fun p hp => (x.mem p (.tail _ hp)).sub y Sub.rfl⟩, y⟩
  obtain ⟨mc, n, r⟩ := x.mem _ List.mem_cons_self
  exact ⟨mc, n, r.mono y⟩
end

theorem VRels.lookup {g : Heap} : ∀ {ps : List Str} {vs : List Value} {ds : List AV}, VRels g vs ds → NsRel g (fun x => (ps.zip vs).lookup x) (fun x => (ps.zip ds).lookup x)
  | [], _, _, _ => fun x d e => by cases e
  | _ :: _, [], [], _ => fun x d e => by cases e
  | p :: ps, v :: vs, d :: ds, h => fun x e he => by
    simp only [List.zip_cons_cons, List.lookup_cons] at he ⊢
    cases hx : x == p with
    | true => rw [hx] at he; cases he; exact ⟨v, rfl, h.1⟩
    | false => rw [hx] at he; exact VRels.lookup h.2 x e he
  | _ :: _, [], _ :: _, h => h.elim
  | _ :: _, _ :: _, [], h => h.elim
theorem lookup_reverse_nodup {β : Type} : ∀ {l : List (Str × β)}, (l.map Prod.fst).Nodup → ∀ x, l.reverse.lookup x = l.lookup x
  | [], _, _ => rfl
  | (p, v) :: l, h, x => by
    simp only [List.map_cons, List.nodup_cons] at h
    rw [List.reverse_cons, List.lookup_append, lookup_reverse_nodup h.2, List.lookup_cons, List.lookup_cons, List.lookup_nil]
    cases hx : x == p with
    | true =>
      have hx' : x = p := by simpa using hx
      subst hx'
      have : l.lookup x = none := by
        rw [List.lookup_eq_none_iff]
        intro q hq
        have : q.1 ≠ x := fun e => h.1 (e ▸ List.mem_map_of_mem hq)
        simpa using Ne.symm this
      rw [this]; rfl
    | false => cases l.lookup x <;> rfl
theorem zip_fst_nodup {β : Type} {ps : List Str} (h : ps.Nodup) (vs : List β) : ((ps.zip vs).map Prod.fst).Nodup := by
  have : ((ps.zip vs).map Prod.fst).Sublist ps := by
    induction ps generalizing vs with
    | nil => exact .slnil
    | cons p ps ih =>
      cases vs with
      | nil => exact List.nil_sublist _
      | cons v vs => exact (ih (List.nodup_cons.mp h).2 vs).cons_cons p
  exact h.sublist this

def AFl.val : AFl → AV
  | .ret d => d
  | _ => .none
def fval : Flow → Value
  | .ret v => v
  | _ => .none
theorem FRel.val {g : Heap} {f : Flow} {a : AFl} (h : FRel g f a) : VRel g (fval f) a.val := by
  cases f <;> cases a <;> first | exact VRel.mkNone | exact h | exact h.elim

/-- the context of a called def -/
abbrev Cx.in (c : Cx) (fd : FuncData) (a L' : Addr) (fr : List (Addr × ACell)) : Cx := ⟨c.prog, c.w, c.S₀, c.A.deeper (callEnv fd L' a), callEnv fd L' a, fr⟩

section
variable {c : Cx} {σ : AS}
/-- a def called: its body, from its own names on -/
theorem OP_def {i : Nat} {fd : FuncData} {body : List Stmt} {a : Addr} {ps : List Str} {ds : List AV} {d : AV} {foot foot' others : List (Addr × ACell)} {mg mb : Str → Option Value} (G : Gb c.S₀ mg mb) (F : FnAt c.S₀.heap a i fd) (hroom : c.A.depth < recursionLimit)
    (hbody : fd.body = .stmts body)
    (hbind : ∀ vals : List Value, vals.length = ps.length → bindArgs fd ⟨vals, []⟩ = pure (ps.zip vals)) (hnd : ps.Nodup) (hlen : ds.length = ps.length)
    (hcell : ∀ x ∈ fd.scope.names, x.2 ≠ .cell) (hloc : ∀ x ∈ ps, fd.scope.names.lookup x = some .local)
    (hperm : σ.mem.Perm (foot ++ others))
    (h : ∀ L', (c.in fd a L' ((c.env.locals, .ns σ.loc) :: (others ++ c.fr))).EX body ⟨fun x => (ps.zip ds).lookup x, foot⟩ (fun af σ' => af.val = d ∧ foot'.Sublist σ'.mem))
    (hco : fd.scope.isCoroutine = false) (hgen : fd.scope.isGenerator = false) (hk : fd.scope.kind = .function) :
    c.OPs (fun vs => call (.ref a) vs) ds σ d ⟨σ.loc, foot' ++ others⟩ := fun E Q s vs x r hq => by
  refine wpAny_call (codeAny_call_def (fd := fd) (body := body) (binds := ps.zip vs) hroom (x.base _ _ F.2.2) rfl (G.nolimit.keeps x.base) (F.2.1.keeps x.base) hbody (BindsTo.of_eq (hbind vs (r.length.trans hlen))) hcell
    (fun y hy => hloc _ (List.of_mem_zip (a := y.1) (b := y.2) hy).1) (fun h₁ hns hk₁ => ?_) hco hgen hk)
  have hp1 : (c.all σ).mem.Perm (foot ++ (others ++ c.fr)) := by rw [← List.append_assoc]; exact hperm.append_right _
  obtain ⟨x₁, k₁, _⟩ := x.perm hp1
  have hns' : h₁.Ns s.heap.objs.size (fun y => (ps.zip vs).lookup y) := by
    have e : (fun y => (ps.zip vs).reverse.lookup y) = fun y => (ps.zip vs).lookup y := funext fun y => lookup_reverse_nodup (zip_fst_nodup hnd vs) y
    rw [← e]; exact hns
  have hf : s.heap.get? s.heap.objs.size = none := by
    cases q : s.heap.get? s.heap.objs.size with
    | none => rfl
    | some o => exact absurd (Heap.lt_size q) (Nat.lt_irrefl _)
  obtain ⟨x₂, k₂⟩ := x₁.enter hk₁ hf hns' ((VRels.lookup (ps := ps) r).mono k₁) (s.toks + (ps.zip vs).length)
  obtain ⟨x₃, k₃, _⟩ := x₂.perm (m' := foot ++ ((c.env.locals, .ns σ.loc) :: (others ++ c.fr))) List.perm_middle.symm
  refine h s.heap.objs.size _ _ _ x₃ fun f s' af σ' hp x' k' r' => ?_
  obtain ⟨rfl, hsub⟩ := hp
  have rv := r'.val
  obtain ⟨y₁, l₁⟩ := x'.less (σ' := ⟨σ'.loc, foot' ++ ((c.env.locals, .ns σ.loc) :: (others ++ c.fr))⟩) (hsub.append_right _) (fun _ _ e => e)
  obtain ⟨y₂, l₂, _⟩ := y₁.perm (m' := (c.env.locals, .ns σ.loc) :: (foot' ++ (others ++ c.fr))) List.perm_middle
  obtain ⟨y₃, l₃⟩ := y₂.leave
  have y₄ : c.St ⟨σ.loc, foot' ++ others⟩ s' := by show St _ _ ⟨σ.loc, foot' ++ others ++ c.fr⟩ s'; rw [List.append_assoc]; exact y₃
  have l₄ : Sub (frzS (c.in fd a s.heap.objs.size ((c.env.locals, .ns σ.loc) :: (others ++ c.fr))).env.locals ((c.in fd a s.heap.objs.size ((c.env.locals, .ns σ.loc) :: (others ++ c.fr))).all σ') s') (c.fz ⟨σ.loc, foot' ++ others⟩ s') := by
    show Sub _ (frzS _ ⟨σ.loc, foot' ++ others ++ c.fr⟩ s')
    rw [List.append_assoc]; exact (l₁.trans l₂).trans l₃
  have key : Q (fval f) s' := hq _ _ y₄ ((((k₁.trans k₂).trans k₃).trans k').trans l₄) (rv.mono l₄)
  cases f <;> exact key
/-- closed facts of a def of the text -/
theorem vals1 {P : List Value → Prop} (h : ∀ a, P [a]) (l : List Value) (e : l.length = 1) : P l := by
  obtain ⟨a, rfl⟩ := List.length_eq_one_iff.mp e
  exact h a
theorem vals2 {P : List Value → Prop} (h : ∀ a b, P [a, b]) (l : List Value) (e : l.length = 2) : P l := by
  cases l with
  | nil => cases e
  | cons a l => exact vals1 (P := fun l => P (a :: l)) (h a) l (Nat.succ.inj e)
theorem vals3 {P : List Value → Prop} (h : ∀ a b c, P [a, b, c]) (l : List Value) (e : l.length = 3) : P l := by
  cases l with
  | nil => cases e
  | cons a l => exact vals2 (P := fun l => P (a :: l)) (h a) l (Nat.succ.inj e)
theorem vals4 {P : List Value → Prop} (h : ∀ a b c d, P [a, b, c, d]) (l : List Value) (e : l.length = 4) : P l := by
  cases l with
  | nil => cases e
  | cons a l => exact vals3 (P := fun l => P (a :: l)) (h a) l (Nat.succ.inj e)
structure FnOk (i : Nat) (ps : List Str) : Prop where
  isDef : isDef (pst i) = true
  bind : ∀ qual doc pm code ct an (vals : List Value), vals.length = ps.length → bindArgs (fdOf (pst i) qual doc pm code ct an) ⟨vals, []⟩ = pure (ps.zip vals)
  nd : ps.Nodup
  cell : ((scOf (pst i)).names.all fun x => x.2 != .cell) = true
  loc : (ps.all fun x => (scOf (pst i)).names.lookup x == some .local) = true
  co : (scOf (pst i)).isCoroutine = false
  gen : (scOf (pst i)).isGenerator = false
  kind : (scOf (pst i)).kind = .function
theorem OP_fn {i : Nat} {a : Addr} {ps : List Str} {ds : List AV} {d : AV} {foot foot' others : List (Addr × ACell)} {mg mb : Str → Option Value} (K : FnOk i ps) (G : Gb c.S₀ mg mb) (F : ∃ fd, FnAt c.S₀.heap a i fd) (hroom : c.A.depth < recursionLimit)
    (hperm : σ.mem.Perm (foot ++ others)) (hlen : ds.length = ps.length := by rfl)
    (h : ∀ L' qual doc pm code ct an, (c.in (fdOf (pst i) qual doc pm code ct an) a L' ((c.env.locals, .ns σ.loc) :: (others ++ c.fr))).EX (bodyOf (pst i)) (mk (ps.zip ds) foot) (fun af σ' => af.val = d ∧ foot'.Sublist σ'.mem)) :
    c.OPs (fun vs => call (.ref a) vs) ds σ d ⟨σ.loc, foot' ++ others⟩ := by
  obtain ⟨_, ⟨qual, doc, pm, code, ct, an, rfl⟩, hF⟩ := F
  have hs := fdOf_scope (pst i) qual doc pm code ct an K.isDef
  refine OP_def (i := i) (body := bodyOf (pst i)) (ps := ps) (foot := foot) G ⟨⟨qual, doc, pm, code, ct, an, rfl⟩, hF⟩ hroom (fdOf_body (pst i) qual doc pm code ct an K.isDef) (K.bind _ _ _ _ _ _) K.nd hlen
    (fun x hx => ?_) (fun x hx => ?_) hperm (fun L' => h L' _ _ _ _ _ _) (by rw [hs]; exact K.co) (by rw [hs]; exact K.gen) (by rw [hs]; exact K.kind)
  · rw [hs] at hx
    have := List.all_eq_true.mp K.cell x hx
    simpa using this
  · rw [hs]
    have := List.all_eq_true.mp K.loc x hx
    simpa using this
end
end Mine

end

noncomputable section
open PySem PySem.W PyProof.Rows PySem.Calls
set_option Elab.async false
set_option linter.unusedVariables false
set_option maxRecDepth 100000
namespace Mine

def ltInts : List Int → List Int → Bool
  | [], [] => false
  | [], _ :: _ => true
  | _ :: _, [] => false
  | x :: xs, y :: ys => if x = y then ltInts xs ys else decide (x < y)

theorem tuple_ltInts (l b : Addr) (items items2 : Array Value) (n n2 : Nat) (dd dd2 : Option Addr) (sl sl2 : Array (Option Value)) (xs ys : List Int) (hx : IntsAre items.toList xs) (hy : IntsAre items2.toList ys) :
    Meets (Builtin.«tuple.__lt__» ⟨[.ref l, .ref b], []⟩)
      (fun A R s => s.heap.get? l = some { cls := .type "tuple", dict := dd, data := .seq items n, slots := sl } ∧ s.heap.get? b = some { cls := .type "tuple", dict := dd2, data := .seq items2 n2, slots := sl2 } ∧
        R (.ok (.ret (.bool (ltInts xs ys)))) s) :=
  .of_wp fun prog w A R s h => by
    obtain ⟨hp, g, d, tk, os⟩ := s; obtain ⟨hl, hb, h⟩ := h
    have f2 := AutoSeq1.sub_tuple_tuple
    have hszs : Builtin.Tuple.tupleCompareSizes .Lt items.size items2.size = .bool (decide (xs.length < ys.length)) := by
      have e1 : items.size = xs.length := by have := hx.length; simpa using this
      have e2 : items2.size = ys.length := by have := hy.length; simpa using this
      rw [e1, e2]; simp [Builtin.Tuple.tupleCompareSizes]
    wp_walk using wpAny_loadPart' hl, wpAny_loadPart' hb, wpAny_forIn_list _ (fun rest b s' => b.1 = none ∧ s' = ⟨hp, g, d, tk, os⟩ ∧ ∃ vs ws as bs, IntsAre vs as ∧ IntsAre ws bs ∧ rest = vs.zip ws ∧
      ltInts xs ys = ltInts as bs ∧ (xs.length : Int) - ys.length = as.length - bs.length) _
    case turn =>
      rintro ⟨y, x⟩ rest b s' ⟨hb', rfl, vs, ws, as, bs, ha, hbs, hz, he, hlen⟩
      cases ha with
      | nil => cases hz
      | @cons i t vs as ha =>
        cases hbs with
        | nil => cases hz
        | @cons j u ws bs hbs =>
          rw [List.zip_cons_cons] at hz
          injection hz with h1 h2
          injection h1 with h1 h3
          subst h1 h3
          refine wpAny_bind (wpAny_eqBool_int ?_)
          rw [ltInts] at he
          by_cases hij : i = j
          · rw [if_pos hij] at he
            simp only [hij, beq_self_eq_true]
            wp_walk
            exact ⟨rfl, rfl, vs, ws, as, bs, ha, hbs, h2, he, by simp only [List.length_cons] at hlen; (first | lia | omega)⟩
          · rw [if_neg hij] at he
            have : (i == j) = false := by simpa using hij
            simp only [this]
            rw [he] at h
            refine wpAny_ite ?_
            rw [if_pos (by rfl)]
            refine wpAny_bind (wpAny_rule (wpAny_bind (wpAny_lt_int (wpAny_bind (wpAny_pure (wpAny_pure ?_))))))
            exact wpAny_pure ⟨_, rfl, h⟩
    case fin =>
      rintro ⟨b1, b2⟩ s' ⟨hb', rfl, vs, ws, as, bs, ha, hbs, hz, he, hlen⟩
      simp only at hb'
      subst hb'
      have hr : ltInts xs ys = decide (xs.length < ys.length) := by
        rw [he]
        cases ha with
        | nil =>
          cases hbs with
          | nil => simp only [ltInts]; simp only [List.length_nil] at hlen; simp; (first | lia | omega)
          | cons j u hbs => simp only [ltInts]; simp only [List.length_nil, List.length_cons] at hlen; simp; (first | lia | omega)
        | cons i t ha =>
          cases hbs with
          | nil => simp only [ltInts]; simp only [List.length_nil, List.length_cons] at hlen; simp; (first | lia | omega)
          | cons j u hbs => cases hz
      wp_walk
      rw [hszs, ← hr]
      exact ⟨_, rfl, h⟩
    case h =>
      exact ⟨rfl, rfl, _, _, xs, ys, hx, hy, rfl, rfl, rfl⟩

theorem intsAre_of {g : Heap} : ∀ {vs : List Value} {xs : List Int} {as : List Addr}, ReadsAll g vs (xs.map .int) as → IntsAre vs xs
  | vs, [], _, r => by cases r; exact .nil
  | vs, x :: xs, _, r => by
    cases r with
    | cons h r => cases h; exact .cons _ _ (intsAre_of r)
theorem IntsAre.two {vs : List Value} {p q : Int} (r : IntsAre vs [p, q]) : ∃ t u, vs = [.int p t, .int q u] := by
  cases r with
  | cons _ t r =>
    cases r with
    | cons _ u r => cases r; exact ⟨t, u, rfl⟩
theorem len2 {α : Type} {l : List α} (h : l.length = 2) : ∃ a b, l = [a, b] := by
  cases l with
  | nil => cases h
  | cons a l =>
    obtain ⟨b, rfl⟩ := List.length_eq_one_iff.mp (Nat.succ.inj h)
    exact ⟨a, b, rfl⟩

/-- a tuple of ints -/
abbrev AV.ints (xs : List Int) : AV := .dat (.tuple (xs.map .int))
section
variable {c : Cx} {σ : AS}
theorem OP_ltTup {xs ys : List Int} (hu : c.A.units < cLine) : c.OP2 (compareOp .Lt) (.ints xs) (.ints ys) σ (.bool (ltInts xs ys)) σ := fun _ _ s v u x r₁ r₂ h => by
  obtain ⟨as, r⟩ := r₁; obtain ⟨bs, r'⟩ := r₂
  cases r with
  | @tuple a o vs n _ as h1 h2 h3 h4 =>
    cases r' with
    | @tuple b o' vs' n' _ bs k1 k2 k3 k4 =>
      have q1 := x.sub_heap _ _ h1
      have q2 := x.sub_heap _ _ k1
      obtain ⟨cl, dd, dt, sl⟩ := o
      obtain ⟨cl', dd', dt', sl'⟩ := o'
      simp only at h2 h3 k2 k3
      subst h2 h3 k2 k3
      show wpAny _ _ (richCompare .Lt (.ref a) (.ref b)) _ _ s
      exact richCompare_meets_room (op := .Lt) ⟨_, q1, rfl⟩ ⟨_, q2, rfl⟩ F.slot_tuple_lt F.entry_tuple_lt (F.args_tuple_lt_2 _ _) (tuple_ltInts a b vs vs' n n' dd dd' sl sl' xs ys (intsAre_of h4) (intsAre_of k4))
        ⟨q1, q2, by simp, h _ _ x Sub.rfl (VRel.mkBool ..)⟩ hu
end
end Mine

end

noncomputable section
open PySem PySem.W PyProof.Rows PySem.Calls
set_option Elab.async false
set_option linter.unusedVariables false
set_option maxRecDepth 100000
namespace Mine

theorem Upd.append {m m' : List (Addr × ACell)} {a : Addr} {k k' : ACell} (u : Upd m a k k' m') (r : List (Addr × ACell)) : Upd (m ++ r) a k k' (m' ++ r) := by
  induction u with
  | head => exact .head
  | tail _ ih => exact .tail ih

section
variable {c : Cx} {σ σ₁ σ₂ σ₃ : AS} {s : Shared}
theorem St_setList {a : Addr} {ds ds' : List AV} {m' : List (Addr × ACell)} {vs vs' : List Value} {n : Nat} {f : Array Value → Array Value} (x : c.St σ s) (u : Upd σ.mem a (.list ds) (.list ds') m') (e : s.heap.get? a = some (listOf vs.toArray n))
    (hf : f vs.toArray = vs'.toArray) (hv : VRels (c.fz σ s) vs' ds') (tk : Nat) :
    c.St ⟨σ.loc, m'⟩ { s with heap := s.heap.update a (Obj.mapSeq f), toks := tk } ∧ Sub (c.fz σ s) (c.fz ⟨σ.loc, m'⟩ { s with heap := s.heap.update a (Obj.mapSeq f), toks := tk }) := by
  refine Mine.St.upd x (u.append c.fr) (Heap.SameBut.update _ _ _) tk fun g hg => ?_
  refine ⟨vs', if (f vs.toArray).size == vs.toArray.size then n else n + 1, ?_, hv.mono hg⟩
  rw [← hf]
  exact Heap.get?_update_self _ e rfl
theorem St_setDict {a : Addr} {n : Nat} {m : Int → Option AV} {m' : List (Addr × ACell)} {k : Int} {v : Value} {d : AV} {h' : Heap} {mc : Int → Option Value} (x : c.St σ s) (u : Upd σ.mem a (.dict n m) (.dict (n + 1) (fun y => if y = k then some d else m y)) m')
    (hr : ∀ y e, m y = some e → ∃ v, mc y = some v ∧ VRel (c.fz σ s) v e)
    (hi : h'.IntMap a (fun y => if y = k then some v else mc y)) (hl : h'.DictLe a (n + 1)) (hs : Heap.SameBut a s.heap h') (hv : VRel (c.fz σ s) v d) (tk : Nat) :
    c.St ⟨σ.loc, m'⟩ { s with heap := h', toks := tk } ∧ Sub (c.fz σ s) (c.fz ⟨σ.loc, m'⟩ { s with heap := h', toks := tk }) := by
  refine Mine.St.upd x (u.append c.fr) hs tk fun g hg => ⟨hl, _, hi, fun y e he => ?_⟩
  by_cases hy : y = k
  · simp only [hy, if_true, Option.some.injEq] at he ⊢
    exact ⟨v, rfl, he ▸ hv.mono hg⟩
  · simp only [hy, if_false] at he ⊢
    obtain ⟨u, h1, h2⟩ := hr y e he
    exact ⟨u, h1, h2.mono hg⟩

/-- xs[i] = v -/
theorem EX_setItem {rest : List Stmt} {P : AFl → AS → Prop} {o i e : Expr} {p p' : Pos} {a : Addr} {ds : List AV} {d : AV} {k : Int} {m' : List (Addr × ACell)} (he : c.EV e σ d σ₁) (ho : c.EV o σ₁ (.raw (.ref a)) σ₂) (hi : c.EV i σ₂ (.int k) σ₃)
    (h0 : 0 ≤ k) (h1 : k < ds.length) (hz : ds.length < 1000000) (u : Upd σ₃.mem a (.list ds) (.list (ds.set k.toNat d)) m') (hr : c.EX rest ⟨σ₃.loc, m'⟩ P)
    (hs : swapsWith e (some (.Subscript o i p')) p.line c.env = pure false := by rfl) : c.EX (.Assign [.Subscript o i p'] e p :: rest) σ P := EX_cons fun E Q s x hq =>
  wpAny_Assign_Subscript (he _ _ s x fun v s₁ x₁ k₁ r₁ => ho _ _ s₁ x₁ fun v₂ s₂ x₂ k₂ r₂ => hi _ _ s₂ x₂ fun v₃ s₃ x₃ k₃ r₃ => by
    obtain rfl : v₂ = .ref a := r₂
    obtain ⟨t, rfl⟩ := r₃.int
    obtain ⟨vs, n, e1, r⟩ := cell_at x₃ u.mem
    have hl := r.length
    obtain ⟨y, q⟩ := St_setList (f := (·.setIfInBounds k.toNat v)) (vs' := vs.set k.toNat v) x₃ u e1 (by apply Array.toList_inj.mp; simp) (r.set k.toNat ((r₁.mono k₂).mono k₃)) s₃.toks
    exact ki_setAt e1 h0 (by (first | lia | omega)) (by simp only [List.size_toArray]; (first | lia | omega)) (hq _ _ .next _ hr y (((k₁.trans k₂).trans k₃).trans q) trivial)) hs
/-- d[i] = v -/
theorem EX_setDict {rest : List Stmt} {P : AFl → AS → Prop} {o i e : Expr} {p p' : Pos} {a : Addr} {n : Nat} {m : Int → Option AV} {d : AV} {k : Int} {m' : List (Addr × ACell)} (he : c.EV e σ d σ₁) (ho : c.EV o σ₁ (.raw (.ref a)) σ₂) (hi : c.EV i σ₂ (.int k) σ₃)
    (hz : n < 1000000) (u : Upd σ₃.mem a (.dict n m) (.dict (n + 1) (fun y => if y = k then some d else m y)) m') (hr : c.EX rest ⟨σ₃.loc, m'⟩ P)
    (hs : swapsWith e (some (.Subscript o i p')) p.line c.env = pure false := by rfl) : c.EX (.Assign [.Subscript o i p'] e p :: rest) σ P := EX_cons fun E Q s x hq =>
  wpAny_Assign_Subscript (he _ _ s x fun v s₁ x₁ k₁ r₁ => ho _ _ s₁ x₁ fun v₂ s₂ x₂ k₂ r₂ => hi _ _ s₂ x₂ fun v₃ s₃ x₃ k₃ r₃ => by
    obtain rfl : v₂ = .ref a := r₂
    obtain ⟨t, rfl⟩ := r₃.int
    obtain ⟨hz', mc, hi', r⟩ := cell_at x₃ u.mem
    exact wpAny_setItem_intMap_le hi' hz' (by rw [sizeLine_eq]; (first | lia | omega)) fun h' q1 q2 q3 => by
      obtain ⟨y, q⟩ := St_setDict x₃ u r q1 q2 q3 ((r₁.mono k₂).mono k₃) (s₃.toks + 1)
      exact hq _ _ .next _ hr y (((k₁.trans k₂).trans k₃).trans q) trivial) hs

-- methods of lists
theorem EV_append {o e : Expr} {apos pos : Pos} {a : Addr} {ds ds₁ : List AV} {d : AV} {pl : Sem Bool} {m' : List (Addr × ACell)} (ho : c.EV o σ (.raw (.ref a)) σ₁) (hm : (a, .list ds₁) ∈ σ₁.mem) (he : c.EV e σ₁ d σ₂) (u : Upd σ₂.mem a (.list ds) (.list (ds ++ [d])) m') (hz : ds.length < 1000000)
    (hb : backTo pos (starEach [e] c.env) = [(false, eval e c.env)] := by rfl)
    (hc : eval (.Call (.Attribute o "append" apos) [e] [] pos) c.env = (do
      let ov ← eval o c.env
      standAt apos.atName
      let (f, first) ← holding [ov] (getMethod ov "append" pl)
      callWith pos f first (backTo pos (starEach [e] c.env)) []) := by rfl) : c.EV (.Call (.Attribute o "append" apos) [e] [] pos) σ .none ⟨σ₂.loc, m'⟩ := fun E Q s x hq =>
  MethodCall_ (pl := pl) (ho _ _ s x fun v s₁ x₁ k₁ r₁ => by
    obtain rfl : v = .ref a := r₁
    obtain ⟨vs, n, e1, r⟩ := cell_at x₁ hm
    refine getMethod_list_append e1 rfl rfl ?_
    rw [hb]
    refine P.append_list (he _ _ s₁ x₁ fun v₂ s₂ x₂ k₂ r₂ => ?_)
    obtain ⟨vs, n, e2, r⟩ := cell_at x₂ u.mem
    have hl := r.length
    obtain ⟨y, q⟩ := St_setList (f := fun xs => xs.push v₂) (vs' := vs ++ [v₂]) x₂ u e2 (by simp) (r.append ⟨r₂, trivial⟩) s₂.toks
    exact ⟨vs.toArray, n, by rw [sizeLine_eq]; simp only [List.size_toArray]; (first | lia | omega), e2, hq _ _ y ((k₁.trans k₂).trans q) VRel.mkNone⟩) hc
theorem EV_pop {o : Expr} {apos pos : Pos} {a : Addr} {ds : List AV} {d : AV} {pl : Sem Bool} {m' : List (Addr × ACell)} (ho : c.EV o σ (.raw (.ref a)) σ₁) (hd : ds.getLast? = some d) (u : Upd σ₁.mem a (.list ds) (.list ds.dropLast) m') (hz : ds.length < 1000000)
    (hc : eval (.Call (.Attribute o "pop" apos) [] [] pos) c.env = (do
      let ov ← eval o c.env
      standAt apos.atName
      let (f, first) ← holding [ov] (getMethod ov "pop" pl)
      callWith pos f first (backTo pos (starEach [] c.env)) []) := by rfl) : c.EV (.Call (.Attribute o "pop" apos) [] [] pos) σ d ⟨σ₁.loc, m'⟩ := fun E Q s x hq =>
  MethodCall_ (pl := pl) (ho _ _ s x fun v s₁ x₁ k₁ r₁ => by
    obtain rfl : v = .ref a := r₁
    obtain ⟨vs, n, e1, r⟩ := cell_at x₁ u.mem
    have hl := r.length
    refine getMethod_list_of F.slot_list_pop F.type_list_pop (PySem.IsL.isList (n := n) e1) ⟨_, e1, rfl⟩ ?_
    have hd' : ds[ds.length - 1]? = some d := by rw [← List.getLast?_eq_getElem?]; exact hd
    obtain ⟨v, hv, rv⟩ := r.get hd'
    have hp : 0 < ds.length := by cases ds with | nil => cases hd | cons _ _ => simp
    obtain ⟨y, q⟩ := St_setList (f := fun xs => xs.eraseIdxIfInBounds (vs.toArray.size - 1)) (vs' := vs.dropLast) x₁ u e1 (by
      apply Array.toList_inj.mp
      have hlt : vs.toArray.size - 1 < vs.toArray.size := by simp only [List.size_toArray]; (first | lia | omega)
      rw [Array.eraseIdxIfInBounds, dif_pos hlt]
      simp [List.eraseIdx_length_sub_one]) (by rw [List.dropLast_eq_take, List.dropLast_eq_take, hl]; exact r.take _) s₁.toks
    exact P.pop_list e1 (by simp only [List.size_toArray, hl]; simpa using hv) (hq _ _ y (k₁.trans q) (rv.mono q)) (by rw [sizeLine_eq]; simp only [List.size_toArray]; (first | lia | omega))) hc
end
end Mine

end

noncomputable section
open PySem PySem.W PyProof.Rows PySem.Calls
set_option Elab.async false
set_option linter.unusedVariables false
set_option maxRecDepth 100000
namespace Mine

def glTab : List (Str × Value) := [("sorted_list_difference", .ref 21), ("unorderable_list_difference", .ref 28), ("heappush", .ref 35), ("heappop", .ref 42), ("_siftdown", .ref 49), ("_siftup", .ref 56), ("_MAX_STRING_SIZE", .int 40 259), ("_MOVE_COST", .int 2 261), ("_CASE_COST", .int 1 263),
    ("_substitution_cost", .ref 63), ("_levenshtein_distance", .ref 70), ("_law_word", .ref 77), ("_law_cost", .ref 84), ("_law_price", .ref 91), ("_law_net", .ref 98), ("_law_parts", .ref 103)]
def blTab : List (Str × Value) := [("len", .builtin "len"), ("min", .builtin "min"), ("max", .builtin "max"), ("sum", .builtin "sum"), ("sorted", .builtin "sorted"), ("range", .type "range"), ("list", .type "list"), ("IndexError", .type "IndexError"), ("ValueError", .type "ValueError")]
/-- what stands at the start -/
structure Gd (S₀ : Shared) (mg mb : Str → Option Value) : Prop extends Gb S₀ mg mb where
  fn : ∀ i a, (i, a) ∈ [(1, 21), (2, 28), (4, 35), (5, 42), (6, 49), (7, 56), (12, 63), (13, 70), (15, 77), (16, 84), (17, 91), (18, 98), (19, 103)] → ∃ fd, FnAt S₀.heap a i fd
  gl : ∀ x v, glTab.lookup x = some v → mg x = some v
  bl : ∀ x v, blTab.lookup x = some v → mg x = none ∧ mb x = some v

/-- room for n calls more, one in the other -/
structure AOk (A : Around) (n : Nat) : Prop where
  h : A.handled = none
  d : A.depth + n < recursionLimit
  u : A.units + 10 * n + 100 < cLine
theorem AOk.in {A : Around} {n : Nat} (x : AOk A (n + 1)) (env : Env) : AOk (A.deeper env) n :=
  ⟨x.h, by show A.depth + 1 + n < _; have := x.d; (first | lia | omega), by show A.units + 3 + 10 * n + 100 < _; have := x.u; (first | lia | omega)⟩
theorem AOk.units {A : Around} {n : Nat} (x : AOk A n) : A.units < cLine := by have := x.u; (first | lia | omega)
theorem AOk.room {A : Around} {n : Nat} (x : AOk A n) : A.depth < recursionLimit := by have := x.d; (first | lia | omega)

/-- _siftdown, plainly -/
def sd (new : List Int) (start : Nat) : Nat → Nat → List (List Int) → List (List Int)
  | 0, pos, h => h.set pos new
  | f + 1, pos, h => if start < pos then (if ltInts new (h.getD ((pos - 1) / 2) []) then sd new start f ((pos - 1) / 2) (h.set pos (h.getD ((pos - 1) / 2) [])) else h.set pos new) else h.set pos new
def siftdown (h : List (List Int)) (start pos : Nat) : List (List Int) := sd (h.getD pos []) start pos pos h

theorem map_get {h : List (List Int)} {i : Nat} (hi : i < h.length) : (h.map AV.ints)[i]? = some (.ints (h.getD i [])) := by
  rw [List.getElem?_map, List.getD_eq_getElem?_getD, List.getElem?_eq_getElem hi]; rfl
theorem map_set {h : List (List Int)} {i : Nat} {x : List Int} : (h.map AV.ints).set i (.ints x) = (h.set i x).map AV.ints := by
  rw [List.map_set]

theorem sd_length (new : List Int) (start : Nat) : ∀ f pos h, (sd new start f pos h).length = h.length
  | 0, pos, h => by simp [sd]
  | f + 1, pos, h => by
    unfold sd
    split
    · split
      · rw [sd_length new start f]; simp
      · simp
    · simp
theorem half (p : Nat) (h : 0 < p) : (((p : Int) - 1).fdiv (2 ^ (1 : Int).toNat)) = (((p - 1) / 2 : Nat) : Int) := by
  have : ((p : Int) - 1) = ((p - 1 : Nat) : Int) := by (first | lia | omega)
  rw [this]
  show Int.fdiv _ 2 = _
  rw [Int.fdiv_eq_ediv_of_nonneg _ (by decide)]
  (first | lia | omega)

theorem K_sd : FnOk 6 ["heap", "startpos", "pos"] := ⟨rfl, fun _ _ _ _ _ _ => vals3 fun _ _ _ => rfl, by decide, by decide, by decide, rfl, rfl, rfl⟩

section
variable {c : Cx} {σ : AS} {mg mb : Str → Option Value}
theorem siftdown_ok (G : Gd c.S₀ mg mb) (hA : AOk c.A 1) {others : List (Addr × ACell)} {a : Addr} {h : List (List Int)} {start pos : Nat} (hp : σ.mem.Perm ([(a, .list (h.map AV.ints))] ++ others)) (hpos : pos < h.length) (hz : h.length < 100000) :
    c.OPs (fun vs => call (.ref 49) vs) [.raw (.ref a), .int start, .int pos] σ .none ⟨σ.loc, [(a, .list ((siftdown h start pos).map AV.ints))] ++ others⟩ := by
  refine OP_fn K_sd G.toGb (G.fn 6 49 (by simp)) hA.room hp rfl fun L' qual doc pm code ct an => ?_
  refine EX_assign (EV_sub (EV_local rfl) (EV_local rfl) (OP_itemCell (.head _) (by (first | lia | omega)) (by rw [Int.toNat_natCast]; exact map_get hpos) (by (first | lia | omega)))) ?_
  refine EX_while (fun n σ' => ∃ (q : Nat) (k : List (List Int)), q = n ∧ q < k.length ∧ k.length = h.length ∧ (∃ f, q ≤ f ∧ sd (h.getD pos []) start pos pos h = sd (h.getD pos []) start f q k) ∧
      σ' = mk [("heap", .raw (.ref a)), ("startpos", .int start), ("pos", .int q), ("newitem", .ints (h.getD pos []))] [(a, .list (k.map AV.ints))]) ?_ pos
    (Le.mk (l := [("heap", .raw (.ref a)), ("startpos", .int start), ("pos", .int pos), ("newitem", .ints (h.getD pos []))]) ⟨rfl, rfl, rfl, rfl, trivial⟩) ⟨pos, h, rfl, hpos, rfl, ⟨pos, Nat.le_refl _, rfl⟩, rfl⟩
  rintro n _ ⟨q, k, rfl, hq, hk, ⟨f, hf, he⟩, rfl⟩
  refine ⟨_, _, TV_cmp (EV_local rfl) (EV_local rfl) OP_gt, fun hv => ?_, fun hv => ?_⟩
  · have hlt : start < q := by have := of_decide_eq_true hv; (first | lia | omega)
    have hq' : (q - 1) / 2 < k.length := by (first | lia | omega)
    refine EX_assign (EV_bin (EV_bin (EV_local rfl) EV_int OP_sub) EV_int (OP_shr (by decide))) ?_
    rw [half q (by (first | lia | omega))]
    refine EX_assign (EV_sub (EV_local rfl) (EV_local rfl) (OP_itemCell (.head _) (by (first | lia | omega)) (by rw [Int.toNat_natCast]; exact map_get hq') (by (first | lia | omega)))) ?_
    refine EX_if (TV_cmp (EV_local rfl) (EV_local rfl) (OP_ltTup (hA.in (n := 0) _).units)) (fun hv => ?_) (fun hv => ?_)
    · refine EX_setItem (EV_local rfl) (EV_local rfl) (EV_local rfl) (by (first | lia | omega)) (by simp; (first | lia | omega)) (by simp; (first | lia | omega)) .head ?_
      refine EX_assign (EV_local rfl) ?_
      refine EX_cont ⟨(q - 1) / 2, mk [("heap", .raw (.ref a)), ("startpos", .int start), ("pos", .int ((q - 1) / 2 : Nat)), ("newitem", .ints (h.getD pos []))] [(a, .list ((k.set q (k.getD ((q - 1) / 2) [])).map AV.ints))], by (first | lia | omega),
        ⟨_, _, rfl, by simp; (first | lia | omega), by simpa using hk, ?_, rfl⟩, Le.mk ⟨rfl, rfl, rfl, rfl, trivial⟩ ?_⟩
      · obtain ⟨f', rfl⟩ : ∃ f', f = f' + 1 := ⟨f - 1, by (first | lia | omega)⟩
        refine ⟨f', by (first | lia | omega), ?_⟩
        rw [he, sd, if_pos hlt, if_pos hv]
      · rw [Int.toNat_natCast, map_set]
        exact List.Sublist.refl _
    · refine EX_nil ?_
      refine EX_brk ?_
      refine EX_setItem (EV_local rfl) (EV_local rfl) (EV_local rfl) (by (first | lia | omega)) (by simp; (first | lia | omega)) (by simp; (first | lia | omega)) .head ?_
      refine EX_nil ⟨rfl, ?_⟩
      have hr : siftdown h start pos = k.set q (h.getD pos []) := by
        unfold siftdown
        rw [he]
        cases f with
        | zero => rfl
        | succ f => rw [sd, if_pos hlt, if_neg (by rw [hv]; decide)]
      rw [Int.toNat_natCast, map_set, hr]
      exact List.Sublist.refl _
  · refine EX_setItem (EV_local rfl) (EV_local rfl) (EV_local rfl) (by (first | lia | omega)) (by simp; (first | lia | omega)) (by simp; (first | lia | omega)) .head ?_
    refine EX_nil ⟨rfl, ?_⟩
    have hr : siftdown h start pos = k.set q (h.getD pos []) := by
      unfold siftdown
      rw [he]
      cases f with
      | zero => rfl
      | succ f => rw [sd, if_neg (by have := of_decide_eq_false hv; (first | lia | omega))]
    rw [Int.toNat_natCast, map_set, hr]
    exact List.Sublist.refl _
theorem EV_gl {x : Str} {p : Pos} {v : Value} (G : Gd c.S₀ mg mb) (hv : glTab.lookup x = some v) (hg : c.env.globals = mainGlobals := by rfl) (hk : c.env.scope.kind = .function := by rfl)
    (hl : c.env.kindOf x = some .globalImplicit := by rfl) (hd : (x == ("__debug__" : Str)) = false := by decide) : c.EV (.Name x p) σ (.raw v) σ := EV_global G.toGb (G.gl x v hv) hg hk hl hd
theorem EV_bl {x : Str} {p : Pos} {v : Value} (G : Gd c.S₀ mg mb) (hv : blTab.lookup x = some v) (hg : c.env.globals = mainGlobals := by rfl) (hb : c.env.builtins = builtinsNs := by rfl) (hk : c.env.scope.kind = .function := by rfl)
    (hl : c.env.kindOf x = some .globalImplicit := by rfl) (hd : (x == ("__debug__" : Str)) = false := by decide) : c.EV (.Name x p) σ (.raw v) σ := EV_builtin G.toGb (G.bl x v hv).1 (G.bl x v hv).2 hg hb hk hl hd
/-- a def of the text called -/
theorem EV_fn {f : Str} {fp p : Pos} {args : List Expr} {a : Addr} {i : Nat} {ds : List AV} {d : AV} {σ₁ σ₂ : AS} (G : Gd c.S₀ mg mb) (hi : (i, a) ∈ [(1, 21), (2, 28), (4, 35), (5, 42), (6, 49), (7, 56), (12, 63), (13, 70), (15, 77), (16, 84), (17, 91), (18, 98), (19, 103)])
    (hf : c.EV (.Name f fp) σ (.raw (.ref a)) σ) (ha : c.EVs args σ ds σ₁) (ho : c.OPs (fun vs => call (.ref a) vs) ds σ₁ d σ₂)
    (hne : ∃ x rest, backTo p (starEach args c.env) = (false, x) :: rest := by exact ⟨_, _, rfl⟩) : c.EV (.Call (.Name f fp) args [] p) σ d σ₂ := by
  obtain ⟨fd, hfd⟩ := G.fn i a hi
  exact EV_callF hf ha ho hfd.2.2 rfl hne
theorem TV_and2 {e₁ e₂ : Expr} {p : Pos} {b₁ b₂ : Bool} (h1 : c.TV e₁ σ b₁ σ) (h2 : b₁ = true → c.TV e₂ σ b₂ σ) : c.TV (.BoolOp .And [e₁, e₂] p) σ (b₁ && b₂) σ := by
  cases b₁ with
  | false => exact TV_and_f h1
  | true =>
    rw [Bool.true_and]
    cases b₂ with
    | true => exact TV_and_t h1 (TV_and_t (h2 rfl) TV_and_nil)
    | false => exact TV_and_t h1 (TV_and_f (h2 rfl))
end
end Mine

end

noncomputable section
open PySem PySem.W PyProof.Rows PySem.Calls
set_option Elab.async false
set_option linter.unusedVariables false
set_option maxRecDepth 100000
namespace Mine

section
variable {c : Cx} {σ σ₁ σ₂ σ₃ : AS} {P : AFl → AS → Prop} {rest : List Stmt}

/-- with a choice of the end (new addresses) -/
def Cx.EP (c : Cx) (e : Expr) (σ : AS) (P : AV → AS → Prop) : Prop :=
  ∀ (E Q : Value → Shared → Prop) (s : Shared), c.St σ s → (∀ v s' d σ', P d σ' → c.St σ' s' → Sub (c.fz σ s) (c.fz σ' s') → VRel (c.fz σ' s') v d → Q v s') → c.wp (eval e c.env) Q E s
def Cx.OPsP (c : Cx) (f : List Value → Sem Value) (ds : List AV) (σ : AS) (P : AV → AS → Prop) : Prop :=
  ∀ (E Q : Value → Shared → Prop) (s : Shared) (vs : List Value), c.St σ s → VRels (c.fz σ s) vs ds → (∀ r' s' d σ', P d σ' → c.St σ' s' → Sub (c.fz σ s) (c.fz σ' s') → VRel (c.fz σ' s') r' d → Q r' s') → c.wp (f vs) Q E s
theorem EV.ep {e : Expr} {d : AV} (h : c.EV e σ d σ₁) : c.EP e σ (fun d' σ' => d' = d ∧ σ' = σ₁) := fun E Q s x hq => h _ _ s x fun v s' x' k' r' => hq v s' d σ₁ ⟨rfl, rfl⟩ x' k' r'
theorem EX_assignP {x : Str} {p p' : Pos} {e : Expr} {P₀ : AV → AS → Prop} (he : c.EP e σ P₀) (hr : ∀ d σ', P₀ d σ' → c.EX rest (σ'.set x d) P) (hk : c.env.scope.kind = .function := by rfl) (hl : c.env.kindOf x = some .local := by rfl)
    (hs : swapsWith e (some (.Name x p')) p.line c.env = pure false := by rfl) : c.EX (.Assign [.Name x p'] e p :: rest) σ P := EX_cons fun E Q s y hq =>
  wpAny_Assign_Name (he _ _ s y fun v s₁ d σ₁ hp y₁ k₁ r₁ => store_local y₁ r₁ (fun s₂ y₂ k₂ => hq .next _ .next _ (hr d σ₁ hp) y₂ (k₁.trans k₂) trivial) hk hl) hs

theorem fresh_none (h : Heap) : h.get? h.objs.size = none := by
  cases q : h.get? h.objs.size with
  | none => rfl
  | some o => exact absurd (Heap.lt_size q) (Nat.lt_irrefl _)

/-- a new list that will be changed -/
theorem EP_listM {es : List Expr} {p : Pos} {ds : List AV} (h : c.EVs es σ ds σ₁) (hsz : ds.length ≤ 1000 := by simp) : c.EP (.List es p) σ (fun d σ' => ∃ a, d = .raw (.ref a) ∧ σ' = ⟨σ₁.loc, (a, .list ds) :: σ₁.mem⟩) := fun E Q s x hq =>
  List_ (h p _ _ s x fun vs s₁ x₁ k₁ r₁ => by
    have hl : vs.length ≤ sizeLine := by rw [r₁.length, sizeLine_eq]; (first | lia | omega)
    obtain ⟨a, b⟩ := x₁.new (a := s₁.heap.objs.size) (c := .list ds) (h' := s₁.heap.push { cls := .type "list", data := .seq vs.toArray }) (fun _ _ e => Heap.get?_push_of_some _ e) (fresh_none _) s₁.toks
      (fun g hg => ⟨vs, 0, Heap.get?_push_size _ rfl, r₁.mono hg⟩)
    exact wpAny_newObj_type (hq _ _ _ _ ⟨_, rfl, rfl⟩ a (k₁.trans b) rfl) (by show vs.toArray.size ≤ sizeLine; rw [List.size_toArray]; exact hl))
theorem EP_dictM {p : Pos} : c.EP (.Dict [] [] p) σ (fun d σ' => ∃ a, d = .raw (.ref a) ∧ σ' = ⟨σ.loc, (a, .dict 0 fun _ => none) :: σ.mem⟩) := fun E Q s x hq => by
  refine wpAny_Dict_empty ?_
  obtain ⟨a, b⟩ := Mine.St.new x (a := s.heap.objs.size) (c := .dict 0 fun _ => none) (h' := s.heap.push { cls := .type "dict", data := .dict #[] }) (fun _ _ e => Heap.get?_push_of_some _ e) (fresh_none _) s.toks
      (fun g hg => ⟨Heap.DictLe.new _, _, Heap.IntMap.new _, fun k d e => by cases e⟩)
  exact hq _ _ _ _ ⟨_, rfl, rfl⟩ a b rfl

-- len
theorem OPs_lenCell {a : Addr} {ds : List AV} (hm : (a, .list ds) ∈ σ.mem) (hz : ds.length < 1000000) : c.OPs (fun vs => call (.builtin "len") vs) [.raw (.ref a)] σ (.int ds.length) σ := fun E Q s vs x r h => by
  replace r := VRels.one r
  obtain ⟨v, rfl, r⟩ := r
  obtain rfl : v = .ref a := r
  obtain ⟨vs, n, e, r⟩ := cell_at x hm
  have hl := r.length
  refine len_list (PySem.IsL.isList (n := n) e) (by simp only [List.size_toArray]; (first | lia | omega)) ?_
  simp only [List.size_toArray, hl]
  exact h _ _ (x.toks _) Sub.rfl (VRel.mkInt ..)
theorem OPs_lenList {ds : List PyData} (hz : ds.length < 1000000) : c.OPs (fun vs => call (.builtin "len") vs) [.dat (.list ds)] σ (.int ds.length) σ := fun E Q s vs x r h => by
  replace r := VRels.one r
  obtain ⟨v, rfl, ⟨as, r⟩⟩ := r
  cases r with
  | @list a o vs n _ as h1 h2 h3 h4 =>
    have hlen := VRels.length (VRels.of_reads h4)
    rw [List.length_map] at hlen
    have hsz : vs.size = ds.length := by rw [← hlen]; simp
    refine len_list (items := vs) ⟨o, x.sub_heap _ _ h1, h2, n, h3⟩ (by (first | lia | omega)) ?_
    rw [hsz]
    exact h _ _ (x.toks _) Sub.rfl (VRel.mkInt ..)
theorem OPs_lenStr {y : Str} (hz : y.length < 1000000) : c.OPs (fun vs => call (.builtin "len") vs) [.str y] σ (.int y.length) σ := fun E Q s vs x r h => by
  replace r := VRels.one r
  obtain ⟨v, rfl, r⟩ := r
  obtain ⟨t, rfl⟩ := r.str
  exact PyProof.Rows.len_str (by (first | lia | omega)) (h _ _ (x.toks _) Sub.rfl (VRel.mkInt ..))
-- min, max
theorem OPs_min2 {i j : Int} (hh : c.A.handled = none) : c.OPs (fun vs => call (.builtin "min") vs) [.int i, .int j] σ (.int (min i j)) σ := fun E Q s vs x r h => by
  replace r := VRels.two r
  obtain ⟨v, u, rfl, r, r'⟩ := r
  obtain ⟨t, rfl⟩ := r.int; obtain ⟨t', rfl⟩ := r'.int
  refine min_two_ints hh fun h' tk hk => ?_
  obtain ⟨y, q⟩ := Mine.St.grow x hk tk
  have key : ∀ tk', VRel (c.fz σ { s with heap := h', toks := tk }) (.int (min i j) tk') (.int (min i j)) := fun tk' => VRel.mkInt ..
  split
  · rename_i hij
    have e : j = min i j := by (first | lia | omega)
    rw [e]; rw [← e]; exact h _ _ y q (by rw [← e]; exact VRel.mkInt ..)
  · rename_i hij
    have e : i = min i j := by (first | lia | omega)
    exact h _ _ y q (by rw [← e]; exact VRel.mkInt ..)
theorem OPs_max2 {i j : Int} (hh : c.A.handled = none) : c.OPs (fun vs => call (.builtin "max") vs) [.int i, .int j] σ (.int (max i j)) σ := fun E Q s vs x r h => by
  replace r := VRels.two r
  obtain ⟨v, u, rfl, r, r'⟩ := r
  obtain ⟨t, rfl⟩ := r.int; obtain ⟨t', rfl⟩ := r'.int
  refine max_two_ints hh fun h' tk hk => ?_
  obtain ⟨y, q⟩ := Mine.St.grow x hk tk
  split
  · rename_i hij
    have e : j = max i j := by (first | lia | omega)
    exact h _ _ y q (by rw [← e]; exact VRel.mkInt ..)
  · rename_i hij
    have e : i = max i j := by (first | lia | omega)
    exact h _ _ y q (by rw [← e]; exact VRel.mkInt ..)
theorem OPs_min3 {i j k : Int} (hh : c.A.handled = none) : c.OPs (fun vs => call (.builtin "min") vs) [.int i, .int j, .int k] σ (.int (min i (min j k))) σ := fun E Q s vs x r h => by
  replace r := VRels.three r
  obtain ⟨v, u, w, rfl, r, r', r''⟩ := r
  obtain ⟨t, rfl⟩ := r.int; obtain ⟨t', rfl⟩ := r'.int; obtain ⟨t'', rfl⟩ := r''.int
  refine min_three_ints hh fun h' tk hk => ?_
  obtain ⟨y, q⟩ := Mine.St.grow x hk tk
  repeat' split
  · have e : k = min i (min j k) := by (first | lia | omega)
    exact h _ _ y q (by rw [← e]; exact VRel.mkInt ..)
  · have e : j = min i (min j k) := by (first | lia | omega)
    exact h _ _ y q (by rw [← e]; exact VRel.mkInt ..)
  · have e : k = min i (min j k) := by (first | lia | omega)
    exact h _ _ y q (by rw [← e]; exact VRel.mkInt ..)
  · have e : i = min i (min j k) := by (first | lia | omega)
    exact h _ _ y q (by rw [← e]; exact VRel.mkInt ..)
-- range
theorem OPs_range1 {n : Int} : c.OPs (fun vs => call (.type "range") vs) [.int n] σ (.rng 0 n 1) σ := fun E Q s vs x r h => by
  replace r := VRels.one r
  obtain ⟨v, rfl, r⟩ := r
  obtain ⟨t, rfl⟩ := r.int
  obtain ⟨a, b, g⟩ := Mine.St.frozen x { cls := .type "range", data := .fields #[.int 0 s.toks, .int n t, .int 1 (s.toks + 1)] } rfl (s.toks + 1 + 1)
  exact call_range_1 (h _ _ a b ⟨_, _, _, _, rfl, g⟩)
theorem OPs_range3 {i j k : Int} (hk : k ≠ 0) (hp : Builtin.divisionGoesByPylong (j - i) k = false) : c.OPs (fun vs => call (.type "range") vs) [.int i, .int j, .int k] σ (.rng i j k) σ := fun E Q s vs x r h => by
  replace r := VRels.three r
  obtain ⟨v, u, w, rfl, r, r', r''⟩ := r
  obtain ⟨t, rfl⟩ := r.int; obtain ⟨t', rfl⟩ := r'.int; obtain ⟨t'', rfl⟩ := r''.int
  obtain ⟨a, b, g⟩ := Mine.St.frozen x { cls := .type "range", data := .fields #[.int i t, .int j t', .int k t''] } rfl s.toks
  exact call_range_3 hk (h _ _ a b ⟨_, _, _, _, rfl, g⟩) (.inl hp)
end
end Mine

end

noncomputable section
open PySem PySem.W PyProof.Rows PySem.Calls
set_option Elab.async false
set_option linter.unusedVariables false
set_option maxRecDepth 100000
namespace Mine

def hpush (h : List (List Int)) (x : List Int) : List (List Int) := siftdown (h ++ [x]) 0 h.length
def su (n : Nat) : Nat → Nat → List (List Int) → List (List Int) × Nat
  | 0, pos, h => (h, pos)
  | f + 1, pos, h => if 2 * pos + 1 < n then
      (if 2 * pos + 2 < n ∧ ltInts (h.getD (2 * pos + 1) []) (h.getD (2 * pos + 2) []) = false then su n f (2 * pos + 2) (h.set pos (h.getD (2 * pos + 2) []))
       else su n f (2 * pos + 1) (h.set pos (h.getD (2 * pos + 1) []))) else (h, pos)
def siftup (h : List (List Int)) (pos : Nat) : List (List Int) :=
  siftdown ((su h.length h.length pos h).1.set (su h.length h.length pos h).2 (h.getD pos [])) pos (su h.length h.length pos h).2
def hpop (h : List (List Int)) : List Int × List (List Int) :=
  if h.length = 1 then (h.getD 0 [], []) else (h.getD 0 [], siftup ((h.dropLast).set 0 (h.getD (h.length - 1) [])) 0)

theorem siftdown_length (h : List (List Int)) (s p : Nat) : (siftdown h s p).length = h.length := sd_length ..
theorem hpush_length (h : List (List Int)) (x : List Int) : (hpush h x).length = h.length + 1 := by simp [hpush, siftdown_length]
theorem su_length (n : Nat) : ∀ f pos h, (su n f pos h).1.length = h.length
  | 0, pos, h => rfl
  | f + 1, pos, h => by
    unfold su
    split
    · split <;> rw [su_length n f] <;> simp
    · rfl
theorem siftup_length (h : List (List Int)) (p : Nat) : (siftup h p).length = h.length := by simp [siftup, siftdown_length, su_length]
theorem hpop_length (h : List (List Int)) (hn : 0 < h.length) : (hpop h).2.length = h.length - 1 := by
  unfold hpop
  split
  · rename_i e; simp [e]
  · simp [siftup_length]

theorem K_push : FnOk 4 ["heap", "item"] := ⟨rfl, fun _ _ _ _ _ _ => vals2 fun _ _ => rfl, by decide, by decide, by decide, rfl, rfl, rfl⟩
theorem K_pop : FnOk 5 ["heap"] := ⟨rfl, fun _ _ _ _ _ _ => vals1 fun _ => rfl, by decide, by decide, by decide, rfl, rfl, rfl⟩
theorem K_su : FnOk 7 ["heap", "pos"] := ⟨rfl, fun _ _ _ _ _ _ => vals2 fun _ _ => rfl, by decide, by decide, by decide, rfl, rfl, rfl⟩

section
variable {c : Cx} {σ : AS} {mg mb : Str → Option Value}
theorem heappush_ok (G : Gd c.S₀ mg mb) (hA : AOk c.A 2) {others : List (Addr × ACell)} {a : Addr} {h : List (List Int)} {x : List Int} (hp : σ.mem.Perm ([(a, .list (h.map AV.ints))] ++ others)) (hz : h.length < 10000) :
    c.OPs (fun vs => call (.ref 35) vs) [.raw (.ref a), .ints x] σ .none ⟨σ.loc, [(a, .list ((hpush h x).map AV.ints))] ++ others⟩ := by
  refine OP_fn K_push G.toGb (G.fn 4 35 (by simp)) hA.room hp rfl fun L' qual doc pm code ct an => ?_
  refine EX_expr (EV_append (EV_local rfl) (.head _) (EV_local rfl) .head (by simp; (first | lia | omega))) ?_
  have key : ∀ σ' : AS, σ'.mem = [(a, .list (h.map AV.ints ++ [AV.ints x]))] → (c.in (fdOf (pst 4) qual doc pm code ct an) 35 L' ((c.env.locals, .ns σ.loc) :: (others ++ c.fr))).OPs (fun vs => call (.ref 49) vs)
      [.raw (.ref a), .int 0, .int (((h.map AV.ints ++ [AV.ints x]).length : Int) - 1)] σ' .none ⟨σ'.loc, [(a, .list ((hpush h x).map AV.ints))]⟩ := fun σ' hm => by
    have e : h.map AV.ints ++ [AV.ints x] = (h ++ [x]).map AV.ints := by simp
    have e2 : ((h.map AV.ints ++ [AV.ints x]).length : Int) - 1 = (h.length : Nat) := by simp
    rw [e2]
    rw [e] at hm
    exact siftdown_ok (c := c.in _ _ _ _) (start := 0) (others := []) G (hA.in (n := 1) _) (by rw [hm]; exact List.Perm.refl _) (by simp) (by simp; (first | lia | omega))
  refine EX_expr (EV_fn (i := 6) G (by decide) (EV_gl G rfl) (EVs_cons (EV_local rfl) (EVs_cons EV_int (EVs_cons (EV_bin (EV_callB (EV_bl G rfl) (EVs_cons (EV_local rfl) EVs_nil) (OPs_lenCell (.head _) (by simp; (first | lia | omega)))) EV_int OP_sub) EVs_nil)))
    (key _ rfl)) ?_
  exact EX_nil ⟨rfl, List.Sublist.refl _⟩

theorem siftup_ok (G : Gd c.S₀ mg mb) (hA : AOk c.A 2) {others : List (Addr × ACell)} {a : Addr} {h : List (List Int)} {pos : Nat} (hp : σ.mem.Perm ([(a, .list (h.map AV.ints))] ++ others)) (hpos : pos < h.length) (hz : h.length < 10000) :
    c.OPs (fun vs => call (.ref 56) vs) [.raw (.ref a), .int pos] σ .none ⟨σ.loc, [(a, .list ((siftup h pos).map AV.ints))] ++ others⟩ := by
  refine OP_fn K_su G.toGb (G.fn 7 56 (by simp)) hA.room hp rfl fun L' qual doc pm code ct an => ?_
  refine EX_assign (EV_callB (EV_bl G rfl) (EVs_cons (EV_local rfl) EVs_nil) (OPs_lenCell (.head _) (by simp; (first | lia | omega)))) ?_
  refine EX_assign (EV_local rfl) ?_
  refine EX_assign (EV_sub (EV_local rfl) (EV_local rfl) (OP_itemCell (.head _) (by (first | lia | omega)) (by rw [Int.toNat_natCast]; exact map_get hpos) (by (first | lia | omega)))) ?_
  refine EX_assign (EV_bin (EV_bin EV_int (EV_local rfl) (OP_mul (IntMulOk.of_left (by decide)))) EV_int OP_add) ?_
  refine EX_while (fun n σ' => ∃ (q : Nat) (k : List (List Int)), n = h.length - q ∧ q < h.length ∧ k.length = h.length ∧ (∃ f, h.length - q ≤ f ∧ su h.length h.length pos h = su h.length f q k) ∧
      σ' = mk [("heap", .raw (.ref a)), ("startpos", .int pos), ("pos", .int q), ("newitem", .ints (h.getD pos [])), ("endpos", .int h.length), ("childpos", .int (2 * q + 1))] [(a, .list (k.map AV.ints))]) ?_ (h.length - pos)
    (Le.mk (l := [("heap", .raw (.ref a)), ("startpos", .int pos), ("pos", .int pos), ("newitem", .ints (h.getD pos [])), ("endpos", .int h.length), ("childpos", .int (2 * pos + 1))]) ⟨rfl, rfl, rfl, rfl, by show some _ = some _; simp, rfl, trivial⟩)
    ⟨pos, h, rfl, hpos, rfl, ⟨h.length, by (first | lia | omega), rfl⟩, rfl⟩
  rintro n _ ⟨q, k, rfl, hq, hk, ⟨f, hf, he⟩, rfl⟩
  refine ⟨_, _, TV_cmp (EV_local rfl) (EV_local rfl) OP_lt, fun hv => ?_, fun hv => ?_⟩
  · have hlt : 2 * q + 1 < h.length := by have := of_decide_eq_true hv; (first | lia | omega)
    obtain ⟨f', rfl⟩ : ∃ f', f = f' + 1 := ⟨f - 1, by (first | lia | omega)⟩
    refine EX_assign (EV_bin (EV_local rfl) EV_int OP_add) ?_
    have e2 : (2 * (q : Int) + 1 + 1) = ((2 * q + 2 : Nat) : Int) := by (first | lia | omega)
    have e1 : (2 * (q : Int) + 1) = ((2 * q + 1 : Nat) : Int) := by (first | lia | omega)
    rw [e2, e1]
    refine EX_if (TV_and2 (b₂ := !ltInts (k.getD (2 * q + 1) []) (k.getD (2 * q + 2) [])) (TV_cmp (EV_local rfl) (EV_local rfl) OP_lt) (fun hb => TV_not (TV_cmp
      (EV_sub (EV_local rfl) (EV_local rfl) (OP_itemCell (.head _) (by (first | lia | omega)) (by rw [Int.toNat_natCast]; exact map_get (by (first | lia | omega))) (by (first | lia | omega))))
      (EV_sub (EV_local rfl) (EV_local rfl) (OP_itemCell (.head _) (by (first | lia | omega)) (by rw [Int.toNat_natCast]; exact map_get (by have := of_decide_eq_true hb; (first | lia | omega))) (by (first | lia | omega)))) (OP_ltTup (hA.in (n := 1) _).units)))) (fun hb => ?_) (fun hb => ?_)
    · rw [Bool.and_eq_true] at hb
      have hb1 := of_decide_eq_true hb.1
      have hb2 : ltInts (k.getD (2 * q + 1) []) (k.getD (2 * q + 2) []) = false := by simpa using hb.2
      refine EX_assign (EV_local rfl) (EX_nil ?_)
      refine EX_setItem (EV_sub (EV_local rfl) (EV_local rfl) (OP_itemCell (.head _) (by (first | lia | omega)) (by rw [Int.toNat_natCast]; exact map_get (by (first | lia | omega))) (by (first | lia | omega)))) (EV_local rfl) (EV_local rfl) (by (first | lia | omega)) (by simp; (first | lia | omega)) (by simp; (first | lia | omega)) .head ?_
      refine EX_assign (EV_local rfl) ?_
      refine EX_assign (EV_bin (EV_bin EV_int (EV_local rfl) (OP_mul (IntMulOk.of_left (by decide)))) EV_int OP_add) (EX_nil ?_)
      refine ⟨h.length - (2 * q + 2), _, by (first | lia | omega), ⟨2 * q + 2, k.set q (k.getD (2 * q + 2) []), rfl, by (first | lia | omega), by simpa using hk, ⟨f', by (first | lia | omega), ?_⟩, rfl⟩, Le.mk ⟨rfl, rfl, rfl, rfl, rfl, rfl, trivial⟩ ?_⟩
      · rw [he, su, if_pos hlt, if_pos ⟨by (first | lia | omega), hb2⟩]
      · rw [Int.toNat_natCast, map_set]
        exact List.Sublist.refl _
    · have hb2 : ¬ (2 * q + 2 < h.length ∧ ltInts (k.getD (2 * q + 1) []) (k.getD (2 * q + 2) []) = false) := fun ⟨h1, h2⟩ => by
        rw [h2] at hb
        simp only [Bool.not_false, Bool.and_true, decide_eq_false_iff_not] at hb
        (first | lia | omega)
      refine EX_nil ?_
      refine EX_setItem (EV_sub (EV_local rfl) (EV_local rfl) (OP_itemCell (.head _) (by (first | lia | omega)) (by rw [Int.toNat_natCast]; exact map_get (by (first | lia | omega))) (by (first | lia | omega)))) (EV_local rfl) (EV_local rfl) (by (first | lia | omega)) (by simp; (first | lia | omega)) (by simp; (first | lia | omega)) .head ?_
      refine EX_assign (EV_local rfl) ?_
      refine EX_assign (EV_bin (EV_bin EV_int (EV_local rfl) (OP_mul (IntMulOk.of_left (by decide)))) EV_int OP_add) (EX_nil ?_)
      refine ⟨h.length - (2 * q + 1), _, by (first | lia | omega), ⟨2 * q + 1, k.set q (k.getD (2 * q + 1) []), rfl, by (first | lia | omega), by simpa using hk, ⟨f', by (first | lia | omega), ?_⟩, rfl⟩, Le.mk ⟨rfl, rfl, rfl, rfl, rfl, rfl, trivial⟩ ?_⟩
      · rw [he, su, if_pos hlt, if_neg hb2]
      · rw [Int.toNat_natCast, map_set]
        exact List.Sublist.refl _
  · have hlt : ¬ 2 * q + 1 < h.length := by have := of_decide_eq_false hv; (first | lia | omega)
    have hr : su h.length h.length pos h = (k, q) := by
      rw [he]
      cases f with
      | zero => rfl
      | succ f => rw [su, if_neg hlt]
    refine EX_setItem (EV_local rfl) (EV_local rfl) (EV_local rfl) (by (first | lia | omega)) (by simp; (first | lia | omega)) (by simp; (first | lia | omega)) .head ?_
    rw [Int.toNat_natCast, map_set]
    refine EX_expr (EV_fn (i := 6) G (by decide) (EV_gl G rfl) (EVs_cons (EV_local rfl) (EVs_cons (EV_local rfl) (EVs_cons (EV_local rfl) EVs_nil)))
      (by exact siftdown_ok (c := c.in _ _ _ _) (others := []) G (hA.in (n := 1) _) (List.Perm.refl _) (by simp; (first | lia | omega)) (by simp; (first | lia | omega)))) ?_
    refine EX_nil ⟨rfl, ?_⟩
    unfold siftup
    rw [hr]
    exact List.Sublist.refl _

theorem heappop_ok (G : Gd c.S₀ mg mb) (hA : AOk c.A 3) {others : List (Addr × ACell)} {a : Addr} {h : List (List Int)} (hp : σ.mem.Perm ([(a, .list (h.map AV.ints))] ++ others)) (hpos : 0 < h.length) (hz : h.length < 10000) :
    c.OPs (fun vs => call (.ref 42) vs) [.raw (.ref a)] σ (.ints (hpop h).1) ⟨σ.loc, [(a, .list ((hpop h).2.map AV.ints))] ++ others⟩ := by
  refine OP_fn K_pop G.toGb (G.fn 5 42 (by simp)) hA.room hp rfl fun L' qual doc pm code ct an => ?_
  have hlast : (h.map AV.ints).getLast? = some (.ints (h.getD (h.length - 1) [])) := by
    rw [List.getLast?_eq_getElem?, List.length_map]; exact map_get (by (first | lia | omega))
  have hdl : (h.map AV.ints).dropLast = h.dropLast.map AV.ints := by rw [List.map_dropLast]
  refine EX_assign (EV_pop (EV_local rfl) hlast .head (by simp; (first | lia | omega))) ?_
  rw [hdl]
  refine EX_if (TV_plain (EV_local rfl) (TT_cell (.head _) (by simp; (first | lia | omega)))) (fun hv => ?_) (fun hv => ?_)
  · have hl : 1 < h.length := by
      simp only [Bool.not_eq_true', List.isEmpty_eq_false_iff] at hv
      have : 0 < (h.dropLast.map AV.ints).length := List.length_pos_iff.mpr hv
      simp at this; (first | lia | omega)
    have h0 : h.dropLast.getD 0 [] = h.getD 0 [] := by
      rw [List.getD_eq_getElem?_getD, List.getD_eq_getElem?_getD, List.getElem?_dropLast, if_pos (by (first | lia | omega))]
    refine EX_assign (EV_sub (EV_local rfl) EV_int (OP_itemCell (.head _) (by decide) (map_get (by simp; (first | lia | omega))) (by decide))) ?_
    refine EX_setItem (EV_local rfl) (EV_local rfl) EV_int (by decide) (by simp; (first | lia | omega)) (by simp; (first | lia | omega)) .head ?_
    rw [show (0 : Int).toNat = 0 from rfl, map_set]
    refine EX_expr (EV_fn (i := 7) G (by decide) (EV_gl G rfl) (EVs_cons (EV_local rfl) (EVs_cons EV_int EVs_nil))
      (by exact siftup_ok (c := c.in _ _ _ _) (pos := 0) (others := []) G (hA.in (n := 2) _) (List.Perm.refl _) (by simp; (first | lia | omega)) (by simp; (first | lia | omega)))) ?_
    refine EX_ret (EV_local rfl) ⟨?_, ?_⟩
    · show AV.ints (h.dropLast.getD 0 []) = _
      unfold hpop
      rw [if_neg (by (first | lia | omega)), h0]
    · unfold hpop
      rw [if_neg (by (first | lia | omega))]
      exact List.Sublist.refl _
  · have hl : h.length = 1 := by
      simp only [Bool.not_eq_false', List.isEmpty_iff] at hv
      have : (h.dropLast.map AV.ints).length = 0 := by rw [hv]; rfl
      simp at this; (first | lia | omega)
    refine EX_nil ?_
    refine EX_ret (EV_local rfl) ⟨?_, ?_⟩
    · show AV.ints (h.getD (h.length - 1) []) = _
      unfold hpop
      rw [if_pos hl, hl]
    · unfold hpop
      rw [if_pos hl]
      have : h.dropLast = [] := List.length_eq_zero_iff.mp (by simp; (first | lia | omega))
      show ([(a, ACell.list _)]).Sublist [(a, ACell.list (h.dropLast.map AV.ints))]
      rw [this]
      exact List.Sublist.refl _
end
end Mine

end

noncomputable section
open PySem PySem.W PyProof.Rows PySem.Calls
set_option Elab.async false
set_option linter.unusedVariables false
set_option maxRecDepth 100000
namespace Mine

def sOf (w : List Nat) : Str := ⟨w.toArray⟩
theorem sOf_length (w : List Nat) : (sOf w).length = w.length := by simp [sOf, Str.length]
theorem sOf_append (w v : List Nat) : sOf w ++ sOf v = sOf (w ++ v) := by
  show Str.mk (w.toArray ++ v.toArray) = Str.mk _
  simp
theorem sOf_beq (w v : List Nat) : (sOf w == sOf v) = decide (w = v) := by
  by_cases h : w = v
  · subst h; simp
  · have : sOf w ≠ sOf v := fun e => h (by simpa [sOf] using e)
    simp [h, this]
theorem sOf_lit (x : String) (w : List Nat) (h : (Str.ofString x).cps = w.toArray) : Str.ofString x = sOf w := by
  show Str.ofString x = ⟨_⟩
  rw [← h]
abbrev AV.w (w : List Nat) : AV := .str (sOf w)

/-- one of the four signs -/
def Ch (n : Nat) : Prop := n = 97 ∨ n = 65 ∨ n = 98 ∨ n = 66
theorem Ch.lt {n : Nat} (h : Ch n) : n < 128 := by rcases h with rfl | rfl | rfl | rfl <;> decide
theorem word_ok {w : List Nat} (h : ∀ n ∈ w, Ch n) : PyData.canLay0 (.str (sOf w)) = true := by
  rw [PyData.canLay0]
  unfold PyData.strOk sOf
  simp only [List.all_toArray, List.all_eq_true, decide_eq_true_eq]
  exact fun n hn => Nat.lt_trans (h n hn).lt (by decide)

section
variable {c : Cx} {σ σ₁ σ₂ σ₃ : AS} {mg mb : Str → Option Value}
theorem EV_rawInt {e : Expr} {i : Int} {t : Tok} (h : c.EV e σ (.raw (.int i t)) σ₁) : c.EV e σ (.int i) σ₁ := fun E Q s x hq => h _ _ s x fun v s' x' k' r' => by
  obtain rfl : v = .int i t := r'
  exact hq _ _ x' k' (VRel.mkInt ..)
theorem EV_lit {x : String} {w : List Nat} {k : Nat} {p : Pos} (h : (Str.ofString x).cps = w.toArray) : c.EV (.Constant (.str (Str.ofString x)) k p) σ (.w w) σ := by
  rw [sOf_lit x w h]; exact EV_str
theorem EV_lower {o : Expr} {apos pos : Pos} {y z : Str} (ho : c.EV o σ (.str y) σ₁) (hy : PySem.Txt.lower y = z) (hl : Builtin.Str.tooLong (PySem.Txt.lower y).cps.size = false)
    (hbase : attributeBase o "lower" c.env (eval o c.env) = eval o c.env := by rfl) (hline : (apos.endLine == pos.line) = true := by rfl) :
    c.EV (.Call (.Attribute o "lower" apos) [] [] pos) σ (.str z) σ₁ := fun E Q s x hq =>
  Call_method0 hbase hline (ho _ _ s x fun v s₁ x₁ k₁ r₁ => by
    obtain ⟨t, rfl⟩ := r₁.str
    refine MethodOnS.str0 F.slot_str_lower F.type_str_lower F.entry_str_lower (F.args_str_lower_1 _) (gives_str_lower y t hl) ?_
    subst hy
    exact ⟨fit_le hl, hq _ _ (x₁.toks _) k₁ (VRel.mkStr ..)⟩)
theorem OP_eqW {w v : List Nat} (hw : ∀ n ∈ w, Ch n) (hv : ∀ n ∈ v, Ch n) (hu : c.A.units < cLine) : c.OP2 (compareOp .Eq) (.w w) (.w v) σ (.bool (decide (w = v))) σ := by
  have := OP_eq (c := c) (σ := σ) (word_ok hw) (word_ok hv) (by show _ + min 0 0 < _; simpa using hu)
  rw [show PyData.eqv (.str (sOf w)) (.str (sOf v)) = decide (w = v) from sOf_beq w v] at this
  exact this
theorem OP_addW {w v : List Nat} (hz : w.length + v.length < 10000) : c.OP2 (binaryOp .Add) (.w w) (.w v) σ (.w (w ++ v)) σ := by
  have := OP_addStr (c := c) (σ := σ) (x := sOf w) (y := sOf v) (by rw [sOf_length, sOf_length, sizeLine_eq]; (first | lia | omega))
  rw [sOf_append] at this
  exact this
theorem OP_itemW {value slice : Expr} {w : List Nat} {k : Int} {ch : Nat} (h0 : 0 ≤ k) (hx : w[k.toNat]? = some ch) (hk : k < 2 ^ 63)
    (hs : ∀ a u t, subscripted slice false (.str a t) (.int k u) = operate [.str a t, .int k u] (getItem (.str a t) (.int k u)) := by intro _ _ _; with_unfolding_all rfl) :
    c.OP2 (subscriptTail value slice) (.w w) (.int k) σ (.w [ch]) σ := by
  refine OP_itemStr (j := k.toNat) ?_ (by simpa [sOf] using hx) (by (first | lia | omega)) hk hs
  have hlt : k.toNat < w.length := (List.getElem?_eq_some_iff.mp hx).1
  rw [sOf_length]
  unfold seqIndex?
  have e1 : ¬ k < 0 := by (first | lia | omega)
  have e2 : (decide (0 ≤ k) && decide (k < (w.length : Int))) = true := by
    simp only [Bool.and_eq_true, decide_eq_true_eq]; (first | lia | omega)
  simp only [e1, if_false, e2, if_true]
end
end Mine

end

noncomputable section
open PySem PySem.W PyProof.Rows PySem.Calls
set_option Elab.async false
set_option linter.unusedVariables false
set_option maxRecDepth 100000
namespace Mine

def low (n : Nat) : Nat := if n = 65 then 97 else if n = 66 then 98 else n
def subCost (p q : Nat) : Nat := if p = q then 0 else if low p = low q then 1 else 2
theorem low_ok {n : Nat} (h : Ch n) : PySem.Txt.lower (sOf [n]) = sOf [low n] ∧ Builtin.Str.tooLong (PySem.Txt.lower (sOf [n])).cps.size = false := by
  rcases h with rfl | rfl | rfl | rfl <;> exact ⟨by decide +kernel, by decide +kernel⟩
theorem low_ch {n : Nat} (h : Ch n) : Ch (low n) := by
  rcases h with rfl | rfl | rfl | rfl <;> simp [low, Ch]
theorem one_ch {n : Nat} (h : Ch n) : ∀ m ∈ [n], Ch m := fun m hm => by
  rcases List.mem_cons.mp hm with rfl | hm
  · exact h
  · cases hm

theorem K_sub : FnOk 12 ["ch_a", "ch_b"] := ⟨rfl, fun _ _ _ _ _ _ => vals2 fun _ _ => rfl, by decide, by decide, by decide, rfl, rfl, rfl⟩
theorem K_cost : FnOk 16 ["one", "two"] := ⟨rfl, fun _ _ _ _ _ _ => vals2 fun _ _ => rfl, by decide, by decide, by decide, rfl, rfl, rfl⟩
theorem K_word : FnOk 15 ["number"] := ⟨rfl, fun _ _ _ _ _ _ => vals1 fun _ => rfl, by decide, by decide, by decide, rfl, rfl, rfl⟩

def letter (k : Nat) : Nat := [97, 65, 98, 66].getD k 97
theorem letter_ch (k : Nat) : Ch (letter k) := by
  unfold letter Ch
  match k with
  | 0 | 1 | 2 | 3 => simp
  | k + 4 => simp
def wordGo : Nat → Nat → List Nat → List Nat
  | 0, _, w => w
  | f + 1, r, w => if r = 0 then w else wordGo f ((r - 1) / 4) (w ++ [letter ((r - 1) % 4)])
def wordOf (r : Nat) : List Nat := wordGo r r []

section
variable {c : Cx} {σ : AS} {mg mb : Str → Option Value}
theorem sub_ok (G : Gd c.S₀ mg mb) (hA : AOk c.A 1) {p q : Nat} (hp : Ch p) (hq : Ch q) : c.OPs (fun vs => call (.ref 63) vs) [.w [p], .w [q]] σ (.int (subCost p q)) σ := by
  refine OP_fn (foot := []) (foot' := []) (others := σ.mem) K_sub G.toGb (G.fn 12 63 (by decide)) hA.room (List.Perm.refl _) rfl fun L' qual doc pm code ct an => ?_
  refine EX_if (TV_cmp (EV_local rfl) (EV_local rfl) (OP_eqW (one_ch hp) (one_ch hq) (hA.in (n := 0) _).units)) (fun hv => ?_) (fun hv => EX_nil ?_)
  · have e : p = q := by simpa using hv
    refine EX_ret EV_int ⟨?_, List.Sublist.refl _⟩
    show AV.int 0 = AV.int (subCost p q : Nat)
    rw [subCost, if_pos e]; rfl
  have ne : ¬ p = q := by simpa using hv
  refine EX_if (TV_cmp (EV_lower (EV_local rfl) (low_ok hp).1 (low_ok hp).2) (EV_lower (EV_local rfl) (low_ok hq).1 (low_ok hq).2) (OP_eqW (one_ch (low_ch hp)) (one_ch (low_ch hq)) (hA.in (n := 0) _).units)) (fun hv => ?_) (fun hv => EX_nil ?_)
  · have e : low p = low q := by simpa using hv
    refine EX_ret (EV_rawInt (EV_gl G rfl)) ⟨?_, List.Sublist.refl _⟩
    show AV.int 1 = AV.int (subCost p q : Nat)
    rw [subCost, if_neg ne, if_pos e]; rfl
  · have e : ¬ low p = low q := by simpa using hv
    refine EX_ret (EV_rawInt (EV_gl G rfl)) ⟨?_, List.Sublist.refl _⟩
    show AV.int 2 = AV.int (subCost p q : Nat)
    rw [subCost, if_neg ne, if_neg e]; rfl

theorem cost_in {p q : Nat} (hp : Ch p) (hq : Ch q) : (([.str (sOf [97, 65]), .str (sOf [65, 97]), .str (sOf [98, 66]), .str (sOf [66, 98])] : List PyData).any fun y => PyData.eqv y (.str (sOf ([p] ++ [q])))) = (decide (¬ p = q) && decide (low p = low q)) := by
  rcases hp with rfl | rfl | rfl | rfl <;> rcases hq with rfl | rfl | rfl | rfl <;> decide +kernel
theorem OP_inList {xs : List PyData} {d : PyData} (hxs : PyData.canLayAll0 xs = true) (hd : d.canLay0 = true) (hu : c.A.units + 1 + min (PyData.depthAll xs) d.depth < cLine) : c.OP2 (compareOp .In) (.dat d) (.dat (.list xs)) σ (.bool (xs.any fun y => PyData.eqv y d)) σ := fun _ _ s v u x r₁ r₂ h => by
  obtain ⟨as, q₁⟩ := r₁; obtain ⟨bs, q₂⟩ := r₂
  exact SeqAt.in_list_reads (Reads.keeps x.sub_heap q₂) (Reads.keeps x.sub_heap q₁) hxs hd hu (h _ _ x Sub.rfl (VRel.mkBool ..))
theorem OP_notInList {xs : List PyData} {d : PyData} (hxs : PyData.canLayAll0 xs = true) (hd : d.canLay0 = true) (hu : c.A.units + 1 + min (PyData.depthAll xs) d.depth < cLine) : c.OP2 (compareOp .NotIn) (.dat d) (.dat (.list xs)) σ (.bool (!xs.any fun y => PyData.eqv y d)) σ := fun _ _ s v u x r₁ r₂ h => by
  obtain ⟨as, q₁⟩ := r₁; obtain ⟨bs, q₂⟩ := r₂
  exact SeqAt.notIn_list_reads (Reads.keeps x.sub_heap q₂) (Reads.keeps x.sub_heap q₁) hxs hd hu (h _ _ x Sub.rfl (VRel.mkBool ..))

theorem cost_ok (G : Gd c.S₀ mg mb) (hA : AOk c.A 1) {p q : Nat} (hp : Ch p) (hq : Ch q) : c.OPs (fun vs => call (.ref 84) vs) [.w [p], .w [q]] σ (.int (subCost p q)) σ := by
  refine OP_fn (foot := []) (foot' := []) (others := σ.mem) K_cost G.toGb (G.fn 16 84 (by decide)) hA.room (List.Perm.refl _) rfl fun L' qual doc pm code ct an => ?_
  refine EX_if (TV_cmp (EV_local rfl) (EV_local rfl) (OP_eqW (one_ch hp) (one_ch hq) (hA.in (n := 0) _).units)) (fun hv => ?_) (fun hv => EX_nil ?_)
  · have e : p = q := by simpa using hv
    refine EX_ret EV_int ⟨?_, List.Sublist.refl _⟩
    show AV.int 0 = AV.int (subCost p q : Nat)
    rw [subCost, if_pos e]; rfl
  have ne : ¬ p = q := by simpa using hv
  have hin := OP_inList (c := c.in (fdOf (pst 16) qual doc pm code ct an) 84 L' ((c.env.locals, .ns σ.loc) :: (σ.mem ++ c.fr))) (σ := mk (List.zip ["one", "two"] [AV.w [p], AV.w [q]]) [])
    (xs := [.str (sOf [97, 65]), .str (sOf [65, 97]), .str (sOf [98, 66]), .str (sOf [66, 98])]) (d := .str (sOf ([p] ++ [q]))) (by decide +kernel)
    (word_ok fun m hm => by rcases List.mem_append.mp hm with hm | hm; exact one_ch hp m hm; exact one_ch hq m hm) (by have := (hA.in (n := 0) (callEnv (fdOf (pst 16) qual doc pm code ct an) L' 84)).u; show _ + 1 + min _ 0 < _; rw [Nat.min_zero]; show (c.A.deeper (callEnv (fdOf (pst 16) qual doc pm code ct an) L' 84)).units + 1 < _; (first | lia | omega))
  rw [cost_in hp hq] at hin
  refine EX_if (TV_cmp (EV_bin (EV_local rfl) (EV_local rfl) (OP_addW (by simp))) (EV_list (ds := [.str (sOf [97, 65]), .str (sOf [65, 97]), .str (sOf [98, 66]), .str (sOf [66, 98])]) (EVs_cons (EV_lit (by decide +kernel)) (EVs_cons (EV_lit (by decide +kernel)) (EVs_cons (EV_lit (by decide +kernel)) (EVs_cons (EV_lit (by decide +kernel)) EVs_nil))))) hin) (fun hv => ?_) (fun hv => EX_nil ?_)
  · have e : low p = low q := by simp at hv; exact hv.2
    refine EX_ret EV_int ⟨?_, List.Sublist.refl _⟩
    show AV.int 1 = AV.int (subCost p q : Nat)
    rw [subCost, if_neg ne, if_pos e]; rfl
  · have e : ¬ low p = low q := by simp at hv; exact hv ne
    refine EX_ret EV_int ⟨?_, List.Sublist.refl _⟩
    show AV.int 2 = AV.int (subCost p q : Nat)
    rw [subCost, if_neg ne, if_neg e]; rfl

theorem noPy (x : Int) : Builtin.divisionGoesByPylong x 4 = false := by
  unfold Builtin.divisionGoesByPylong
  simp only [Bool.and_eq_false_iff]
  exact .inl (by decide +kernel)
theorem word_fdiv (r : Nat) (h : 0 < r) : ((r : Int) - 1).fdiv 4 = (((r - 1) / 4 : Nat) : Int) := by
  have : ((r : Int) - 1) = ((r - 1 : Nat) : Int) := by (first | lia | omega)
  rw [this, Int.fdiv_eq_ediv_of_nonneg _ (by decide)]; (first | lia | omega)
theorem word_fmod (r : Nat) (h : 0 < r) : ((r : Int) - 1).fmod 4 = (((r - 1) % 4 : Nat) : Int) := by
  have : ((r : Int) - 1) = ((r - 1 : Nat) : Int) := by (first | lia | omega)
  rw [this, Int.fmod_eq_emod_of_nonneg _ (by decide)]; (first | lia | omega)
theorem letter_get (k : Nat) (h : k < 4) : [97, 65, 98, 66][((k : Nat) : Int).toNat]? = some (letter k) := by
  rw [Int.toNat_natCast]
  revert k
  decide

theorem word_ok' (G : Gd c.S₀ mg mb) (hA : AOk c.A 1) {n : Int} : c.OPs (fun vs => call (.ref 77) vs) [.int n] σ (.w (wordOf (n.fmod 85).toNat)) σ := by
  refine OP_fn (foot := []) (foot' := []) (others := σ.mem) K_word G.toGb (G.fn 15 77 (by decide)) hA.room (List.Perm.refl _) rfl fun L' qual doc pm code ct an => ?_
  refine EX_assign (EV_bin (EV_local rfl) EV_int (OP_mod (by decide))) ?_
  refine EX_assign (EV_lit (x := "") (w := []) (by decide +kernel)) ?_
  have hr0 : 0 ≤ n.fmod 85 := Int.fmod_nonneg_of_pos _ (by decide)
  have hr1 : n.fmod 85 < 85 := Int.fmod_lt_of_pos _ (by decide)
  obtain ⟨r, hr⟩ := Int.eq_ofNat_of_zero_le hr0
  rw [hr]
  have hr85 : r < 85 := by omega
  refine EX_while (fun k σ' => ∃ (r' : Nat) (w : List Nat), r' = k ∧ r' + w.length < 100 ∧ (∃ f, r' ≤ f ∧ wordOf r = wordGo f r' w) ∧ σ' = mk [("rest", .int r'), ("word", .w w)] []) ?_ r
    (Le.mk (l := [("rest", .int r), ("word", .w [])]) ⟨rfl, rfl, trivial⟩) ⟨r, [], rfl, by simp; omega, ⟨r, Nat.le_refl _, rfl⟩, rfl⟩
  rintro k _ ⟨r', w, rfl, hlen, ⟨f, hf, he⟩, rfl⟩
  refine ⟨_, _, TV_cmp (EV_local rfl) EV_int OP_gt, fun hv => ?_, fun hv => ?_⟩
  · have hpos : 0 < r' := by have := of_decide_eq_true hv; omega
    obtain ⟨f', rfl⟩ : ∃ f', f = f' + 1 := ⟨f - 1, by omega⟩
    refine EX_assign (EV_bin (EV_local rfl) EV_int OP_sub) ?_
    have hm := word_fmod r' hpos
    refine EX_assign (EV_bin (EV_local rfl) (EV_sub (EV_lit (w := [97, 65, 98, 66]) (by decide +kernel)) (EV_bin (EV_local rfl) EV_int (OP_mod (by decide))) (OP_itemW (ch := letter ((r' - 1) % 4)) (by rw [hm]; omega) (by rw [hm]; exact letter_get _ (by omega)) (by rw [hm]; omega))) (OP_addW (by simp; omega))) ?_
    refine EX_assign (EV_bin (EV_local rfl) EV_int (OP_fdiv (by decide) (noPy _))) (EX_nil ?_)
    refine ⟨(r' - 1) / 4, mk [("rest", .int ((r' - 1) / 4 : Nat)), ("word", .w (w ++ [letter ((r' - 1) % 4)]))] [], by omega, ⟨_, _, rfl, by simp; omega, ⟨f', by omega, ?_⟩, rfl⟩, Le.mk ⟨?_, rfl, trivial⟩⟩
    · rw [he, wordGo, if_neg (by omega)]
    · show some (AV.int _) = some (AV.int _)
      rw [word_fdiv r' hpos]
  · have h0 : r' = 0 := by have := of_decide_eq_false hv; omega
    refine EX_ret (EV_local rfl) ⟨?_, List.Sublist.refl _⟩
    show AV.w w = AV.w (wordOf (Int.toNat (r : Nat)))
    rw [Int.toNat_natCast, he]
    cases f with
    | zero => rfl
    | succ f => rw [wordGo, if_pos h0]
end
end Mine

end

noncomputable section
open PySem PySem.W PyProof.Rows PySem.Calls
set_option Elab.async false
set_option linter.unusedVariables false
set_option maxRecDepth 100000
namespace Mine

abbrev Cx.on (c : Cx) (fr : List (Addr × ACell)) : Cx := ⟨c.prog, c.w, c.S₀, c.A, c.env, fr⟩

def itemsOf : AV → List AV
  | .rng a b c => (List.range (Builtin.Range.rangeSize a b c).toNat).map fun i => .int (a + (i : Nat) * c)
  | .dat (.list ds) => ds.map .dat
  | _ => []
def IterOk : AV → Prop
  | .rng a b c => Builtin.Range.small a b c = true
  | .dat (.list _) => True
  | _ => False
theorem IterOk.inv {src : AV} (ok : IterOk src) : (∃ a b z, src = .rng a b z ∧ Builtin.Range.small a b z = true) ∨ ∃ ds, src = .dat (.list ds) := by
  unfold IterOk at ok
  split at ok
  · exact .inl ⟨_, _, _, rfl, ok⟩
  · exact .inr ⟨_, rfl⟩
  · exact ok.elim
theorem iter_inv {g h : Heap} {a : Addr} {src : AV} {k : Nat} (q : (ACell.iter src k).At g h a) : (∃ x y z, src = .rng x y z ∧ IsRangeIter h a (x + k * z) (((Builtin.Range.rangeSize x y z).toNat : Int) - k) z) ∨ ∃ l ds as, src = .dat (.list ds) ∧ Reads g (.ref l) (.list ds) as ∧ h.IsListIter a l k := by
  cases src with
  | dat d => obtain ⟨l, ds, as, rfl, r, i⟩ := q; exact .inr ⟨l, ds, as, rfl, r, i⟩
  | raw v => exact q.elim
  | rng x y z => exact .inl ⟨x, y, z, rfl, q⟩

section
variable {c : Cx} {σ σ₁ σ₂ : AS} {s : Shared} {E : Value → Shared → Prop} {src : AV} {k : Nat} {I : Addr} {fr : List (Addr × ACell)} {d : AV}

theorem rangeSize_nonneg (a b c : Int) : 0 ≤ Builtin.Range.rangeSize a b c := by
  unfold Builtin.Range.rangeSize
  split
  · split
    · have := Int.ediv_nonneg (a := b - a - 1) (b := c) (by (first | lia | omega)) (by (first | lia | omega)); (first | lia | omega)
    · (first | lia | omega)
  · split
    · rename_i h1 h2
      rcases Int.lt_or_eq_of_le (Int.not_lt.mp h1) with h | h
      · have := Int.ediv_nonneg (a := a - b - 1) (b := -c) (by (first | lia | omega)) (by (first | lia | omega)); (first | lia | omega)
      · subst h; simp
    · (first | lia | omega)

theorem iter_new {v : Value} {Q : Value → Shared → Prop} (x : c.St σ s) (r : VRel (c.fz σ s) v src) (ok : IterOk src)
    (h : ∀ I s', (c.on ((I, .iter src 0) :: c.fr)).St σ s' → Sub (c.fz σ s) ((c.on ((I, .iter src 0) :: c.fr)).fz σ s') → Q (.ref I) s') : c.wp (pyIter v) Q E s := by
  have fin : ∀ (o : Obj), o.isFreed = false → (∀ g, Sub (c.fz σ s) g → ACell.At g (s.heap.push o) s.heap.objs.size (.iter src 0)) → Q (.ref s.heap.objs.size) { s with heap := s.heap.push o } := fun o hf hc => by
    obtain ⟨y, k₁⟩ := Mine.St.new x (a := s.heap.objs.size) (c := .iter src 0) (h' := s.heap.push o) (fun _ _ e => Heap.get?_push_of_some _ e) (fresh_none _) s.toks hc
    obtain ⟨y₂, k₂, _⟩ := y.perm (m' := σ.mem ++ (s.heap.objs.size, .iter src 0) :: c.fr) List.perm_middle.symm
    exact h _ _ y₂ (k₁.trans k₂)
  rcases ok.inv with ⟨a, b, z, rfl, ok⟩ | ⟨ds, rfl⟩
  · obtain ⟨q, t, u, w, hv, hr⟩ := r
    subst hv
    refine wpAny_pyIter_range (x.sub_heap _ _ hr) ok (fin _ rfl fun g hg => ?_)
    show IsRangeIter _ _ (a + ((0 : Nat) : Int) * z) (((Builtin.Range.rangeSize a b z).toNat : Int) - ((0 : Nat) : Int)) z
    have e1 : a + ((0 : Nat) : Int) * z = a := by simp
    have e2 : (((Builtin.Range.rangeSize a b z).toNat : Int) - ((0 : Nat) : Int)) = Builtin.Range.rangeSize a b z := by have := rangeSize_nonneg a b z; (first | lia | omega)
    rw [e1, e2]
    exact Heap.get?_push_size _ rfl
  · obtain ⟨as, hr⟩ := r
    cases hr with
    | @list l o vs n _ as h1 h2 h3 h4 =>
      refine wpAny_pyIter_list (items := vs) ⟨o, x.sub_heap _ _ h1, h2, n, h3⟩ (fin _ rfl fun g hg => ?_)
      exact ⟨l, ds, _, rfl, Reads.keeps hg (.list h1 h2 h3 h4), _, Heap.get?_push_size _ rfl, rfl, rfl⟩

theorem upd_mid {m₁ m₂ : List (Addr × ACell)} {a : Addr} {k k' : ACell} : Upd (m₁ ++ (a, k) :: m₂) a k k' (m₁ ++ (a, k') :: m₂) := by
  induction m₁ with
  | nil => exact .head
  | cons p m ih => exact .tail ih

theorem next_item {Q : Option Value → Shared → Prop} (x : (c.on ((I, .iter src k) :: fr)).St σ s) (hd : (itemsOf src)[k]? = some d)
    (h : ∀ v s', (c.on ((I, .iter src (k + 1)) :: fr)).St σ s' → Sub ((c.on ((I, .iter src k) :: fr)).fz σ s) ((c.on ((I, .iter src (k + 1)) :: fr)).fz σ s') → VRel ((c.on ((I, .iter src (k + 1)) :: fr)).fz σ s') v d → Q (some v) s') :
    c.wp (pyNext (.ref I)) Q E s := by
  have q := x.mem (I, .iter src k) (List.mem_append_right _ (.head _))
  rcases iter_inv q with ⟨a, b, z, rfl, q⟩ | ⟨l, ds, as, rfl, hr, hit⟩
  · have hk : k < (Builtin.Range.rangeSize a b z).toNat := by
      have := (List.getElem?_eq_some_iff.mp hd).1
      simpa [itemsOf] using this
    obtain rfl : d = .int (a + (k : Nat) * z) := by
      simp only [itemsOf, List.getElem?_map, List.getElem?_range hk] at hd
      exact (Option.some.inj hd).symm
    refine wpAny_pyNext_range_item q (by (first | lia | omega)) fun h' hit hs => ?_
    obtain ⟨y, k₁⟩ := Mine.St.upd x (c' := .iter (.rng a b z) (k + 1)) upd_mid hs (s.toks + 1) (fun g hg => by
      show IsRangeIter _ _ (a + ((k + 1 : Nat) : Int) * z) (((Builtin.Range.rangeSize a b z).toNat : Int) - ((k + 1 : Nat) : Int)) z
      have e1 : a + ((k + 1 : Nat) : Int) * z = a + (k : Nat) * z + z := by push_cast; rw [Int.add_mul, Int.one_mul, Int.add_assoc]
      have e2 : (((Builtin.Range.rangeSize a b z).toNat : Int) - ((k + 1 : Nat) : Int)) = ((Builtin.Range.rangeSize a b z).toNat : Int) - k - 1 := by push_cast; (first | lia | omega)
      rw [e1, e2]; exact hit)
    exact h _ _ y k₁ (VRel.mkInt ..)
  · cases hr with
    | @list _ o vs n _ as h1 h2 h3 h4 =>
      have hd' : ds[k]?.map AV.dat = some d := by rw [← List.getElem?_map]; exact hd
      obtain ⟨dk, hdk, rfl⟩ := Option.map_eq_some_iff.mp hd'
      obtain ⟨v, bs, e1, r'⟩ := readsAll_get h4 hdk
      have hx := x.sub_heap _ _ h1
      have hne : l ∉ dom c.env.locals ((c.on ((I, .iter (.dat (.list ds)) k) :: fr)).all σ) := (frz_get.mp h1).2
      refine wpAny_pyNext_list_item hit (items := vs) ⟨o, hx, h2, n, h3⟩ (by simpa using e1) fun h' hit' hs => ?_
      obtain ⟨y, k₁⟩ := Mine.St.upd x (c' := .iter (.dat (.list ds)) (k + 1)) upd_mid hs s.toks (fun g hg => ⟨l, ds, _, rfl, Reads.keeps hg (.list h1 h2 h3 h4), hit'⟩)
      exact h _ _ y k₁ ⟨_, Reads.keeps k₁ r'⟩

theorem next_end {Q : Option Value → Shared → Prop} (hh : c.A.handled = none) (x : (c.on ((I, .iter src k) :: fr)).St σ s) (hd : (itemsOf src).length ≤ k)
    (h : ∀ s', (c.on fr).St σ s' → Sub ((c.on ((I, .iter src k) :: fr)).fz σ s) ((c.on fr).fz σ s') → Q none s') : c.wp (pyNext (.ref I)) Q E s := by
  have q := x.mem (I, .iter src k) (List.mem_append_right _ (.head _))
  rcases iter_inv q with ⟨a, b, z, rfl, q⟩ | ⟨l, ds, as, rfl, hr, hit⟩
  · have hk : (Builtin.Range.rangeSize a b z).toNat ≤ k := by simpa [itemsOf] using hd
    refine wpAny_pyNext_range_end hh q (by (first | lia | omega)) fun h' he => ?_
    obtain ⟨y, k₁⟩ := Mine.St.lost x he s.toks
    exact h _ y k₁
  · cases hr with
    | @list _ o vs n _ as h1 h2 h3 h4 =>
      have hlen := VRels.length (VRels.of_reads h4)
      rw [List.length_map] at hlen
      have hd' : ds.length ≤ k := by simpa [itemsOf] using hd
      refine wpAny_pyNext_list_end hh hit (items := vs) ⟨o, x.sub_heap _ _ h1, h2, n, h3⟩ (by
        have : vs.toList[k]? = none := List.getElem?_eq_none (by (first | lia | omega))
        simpa using this) fun h' he => ?_
      obtain ⟨y, k₁⟩ := Mine.St.lost x he s.toks
      exact h _ y k₁

/-- a target stored -/
def Cx.Asg (c : Cx) (target : Expr) (d : AV) (σ σ' : AS) : Prop :=
  ∀ (E : Value → Shared → Prop) (Q : Unit → Shared → Prop) (s : Shared) (v : Value), c.St σ s → VRel (c.fz σ s) v d → (∀ s', c.St σ' s' → Sub (c.fz σ s) (c.fz σ' s') → Q () s') → c.wp (assign target c.env v) Q E s
theorem Asg_name {x : Str} {p : Pos} (hk : c.env.scope.kind = .function := by rfl) (hl : c.env.kindOf x = some .local := by rfl) : c.Asg (.Name x p) d σ (σ.set x d) := fun E Q s v y r h =>
  wpAny_assign_Name (store_local y r h hk hl)
/-- nothing that an iterator owns goes -/
def Cx.Own (c : Cx) (target : Expr) (src : AV) : Prop :=
  ∀ (E : Value → Shared → Prop) (Q : Unit → Shared → Prop) (s : Shared) (fr : List (Addr × ACell)) (I : Addr) (k : Nat) (v : Value) (σ : AS), (c.on ((I, .iter src k) :: fr)).St σ s → Q () s → c.wp (letOwnedTupleGo target (.ref I) v) Q E s
theorem Own_name {x : Str} {p : Pos} : c.Own (.Name x p) src := fun E Q s fr I k v σ y h => wpAny_pure h
theorem Own_tuple {es : List Expr} {n : Nat} {p : Pos} {ds : List PyData} : c.Own (.Tuple es n p) (.dat (.list ds)) := fun E Q s fr I k v σ y h => by
  obtain ⟨l, ds', as, e, hr, hit⟩ := y.mem (I, .iter (.dat (.list ds)) k) (List.mem_append_right _ (.head _))
  cases v with
  | ref T => exact wpAny_letOwnedTupleGo_listiter hit h
  | _ => exact wpAny_pure h

variable {P : AFl → AS → Prop} {rest : List Stmt}
theorem EX_for {target iter : Expr} {body : List Stmt} {p : Pos} (hi : c.EV iter σ src σ₁) (ok : IterOk src) (hh : c.A.handled = none) (ho : c.Own target src) (J : Nat → AS → Prop) {σ₀ : AS} (l : Le σ₀ σ₁) (h0 : J 0 σ₀)
    (turn : ∀ fr k d σ', J k σ' → (itemsOf src)[k]? = some d → ∃ σ'', (c.on fr).Asg target d σ' σ'' ∧ (c.on fr).EX body σ'' (c.Turn rest P fun τ => ∃ τ', J (k + 1) τ' ∧ Le τ' τ))
    (done : ∀ σ', J (itemsOf src).length σ' → c.EX rest σ' P)
    (hs : ∀ x, foldedSetIterable iter c.env x = pure x := by intro _; rfl) : c.EX (.For target iter body [] p :: rest) σ P := EX_cons fun E Q s y hq =>
  wpAny_For (hi _ _ s y fun v s₁ y₁ k₁ r₁ => by
    obtain ⟨y₁', k₁'⟩ := l.st y₁
    refine iter_new y₁' (r₁.mono k₁') ok fun It s₂ y₂ k₂ => ?_
    refine codeAny_forLoop_any (fun n s' => ∃ k σ', n = (itemsOf src).length - k ∧ k ≤ (itemsOf src).length ∧ J k σ' ∧ (c.on ((It, .iter src k) :: c.fr)).St σ' s' ∧ Sub (c.fz σ s) ((c.on ((It, .iter src k) :: c.fr)).fz σ' s')) ?_ (itemsOf src).length
      ⟨0, σ₀, by (first | lia | omega), by (first | lia | omega), h0, y₂, (k₁.trans k₁').trans k₂⟩
    rintro n s' ⟨k, σ', rfl, hk, hJ, y', k'⟩
    by_cases hlt : k < (itemsOf src).length
    · obtain ⟨d, hd⟩ : ∃ d, (itemsOf src)[k]? = some d := ⟨_, List.getElem?_eq_getElem hlt⟩
      obtain ⟨σ'', ha, hb⟩ := turn ((It, .iter src (k + 1)) :: c.fr) k d σ' hJ hd
      refine next_item y' hd fun v s₃ y₃ k₃ r₃ => ?_
      refine ho _ _ s₃ c.fr It (k + 1) v σ' y₃ ?_
      refine ha _ _ s₃ v y₃ r₃ fun s₄ y₄ k₄ => ?_
      refine hb _ _ s₄ y₄ fun f s₅ a σ₅ hp y₅ k₅ r₅ => ?_
      have kk := ((k'.trans k₃).trans k₄).trans k₅
      have less : ∀ {τ : AS} {s₆ : Shared}, (c.on ((It, .iter src (k + 1)) :: c.fr)).St τ s₆ → c.St τ s₆ ∧ Sub ((c.on ((It, .iter src (k + 1)) :: c.fr)).fz τ s₆) (c.fz τ s₆) := fun y₆ =>
        Mine.St.less y₆ (σ' := c.all _) ((List.Sublist.refl _).append (List.sublist_cons_self _ _)) (fun _ _ e => e)
      cases a with
      | next =>
        obtain rfl := r₅.next; obtain ⟨τ', hJ', l'⟩ := hp
        obtain ⟨y₆, k₆⟩ := l'.st y₅
        exact ⟨_, by (first | lia | omega), k + 1, τ', rfl, hlt, hJ', y₆, kk.trans k₆⟩
      | cont =>
        obtain rfl := r₅.cont; obtain ⟨τ', hJ', l'⟩ := hp
        obtain ⟨y₆, k₆⟩ := l'.st y₅
        exact ⟨_, by (first | lia | omega), k + 1, τ', rfl, hlt, hJ', y₆, kk.trans k₆⟩
      | brk =>
        obtain rfl := r₅.brk
        obtain ⟨y₆, k₆⟩ := less y₅
        exact hq _ _ .next _ hp y₆ (kk.trans k₆) trivial
      | ret d =>
        obtain ⟨v, rfl, r⟩ := r₅.ret
        obtain ⟨y₆, k₆⟩ := less y₅
        exact hq _ _ (.ret d) _ hp y₆ (kk.trans k₆) (VRel.mono k₆ r)
    · obtain rfl : k = (itemsOf src).length := by (first | lia | omega)
      refine next_end hh y' (Nat.le_refl _) fun s₃ y₃ k₃ => ?_
      exact wpAny_execs_nil (hq _ _ .next _ (done σ' hJ) y₃ (k'.trans k₃) trivial)) hs
/-- the same, what a turn owes kept under a name -/
theorem EX_forT {target iter : Expr} {body : List Stmt} {p : Pos} (hi : c.EV iter σ src σ₁) (ok : IterOk src) (hh : c.A.handled = none) (ho : c.Own target src) (J : Nat → AS → Prop) {σ₀ : AS} (l : Le σ₀ σ₁) (h0 : J 0 σ₀)
    (turn : ∀ fr k d σ' (T : AFl → AS → Prop), (∀ a τ, c.Turn rest P (fun τ => ∃ τ', J (k + 1) τ' ∧ Le τ' τ) a τ → T a τ) → J k σ' → (itemsOf src)[k]? = some d → ∃ σ'', (c.on fr).Asg target d σ' σ'' ∧ (c.on fr).EX body σ'' T)
    (done : ∀ σ', J (itemsOf src).length σ' → c.EX rest σ' P)
    (hs : ∀ x, foldedSetIterable iter c.env x = pure x := by intro _; rfl) : c.EX (.For target iter body [] p :: rest) σ P := EX_for hi ok hh ho J l h0 (fun fr k d σ' hj hd => turn fr k d σ' _ (fun _ _ h => h) hj hd) done hs
end
end Mine

end

noncomputable section
open PySem PySem.W PyProof.Rows PySem.Calls
set_option Elab.async false
set_option linter.unusedVariables false
set_option maxRecDepth 100000
namespace Mine
open Builtin.Str (strSliceIndices)

theorem slice_eq (x : Str) (lo hi : Option Int) (a b : Nat) (hab : a ≤ b) (hb : b ≤ x.length) (h : strSliceIndices lo hi 1 x.length = strSliceIndices (some (a : Int)) (some (b : Int)) 1 x.length) :
    PySem.Txt.slice x lo hi = ⟨((x.cps.toList.drop a).take (b - a)).toArray⟩ := by
  unfold PySem.Txt.slice
  rw [h]
  have hl : (strSliceIndices (some (a : Int)) (some (b : Int)) 1 x.length).length = b - a := by rw [StrLaws.strSliceIndices_plain hab hb]; simp
  split
  · rename_i hc
    simp only [Bool.and_eq_true, beq_iff_eq] at hc
    have h1 : b - a = x.length := hl ▸ hc.2
    have ha : a = 0 := by (first | lia | omega)
    obtain ⟨cps⟩ := x
    subst ha
    have : cps.toList.length ≤ b := by simp [Str.length] at h1; simp; (first | lia | omega)
    simp [List.take_of_length_le this]
  · rw [StrLaws.sliced_plain x hab hb]
theorem slice_drop (w : List Nat) (k : Nat) : PySem.Txt.slice (sOf w) (some (k : Int)) none = sOf (w.drop k) := by
  have hn := sOf_length w
  rw [slice_eq (sOf w) (some (k : Int)) none (min k w.length) w.length (by (first | lia | omega)) (by (first | lia | omega)) (by
    simp only [strSliceIndices, hn]
    have h1 : ¬ ((k : Int) < 0) := by (first | lia | omega)
    have h2 : ¬ (((min k w.length : Nat) : Int) < 0) := by (first | lia | omega)
    have h3 : ¬ ((w.length : Int) < 0) := by (first | lia | omega)
    simp only [h1, h2, h3, if_false, show ((1 : Int) > 0) = True from by simp, if_true]
    congr 1 <;> (first | lia | omega))]
  unfold sOf
  congr 2
  rw [List.take_of_length_le (by simp)]
  rcases Nat.le_total k w.length with h | h
  · rw [Nat.min_eq_left h]
  · rw [Nat.min_eq_right h, List.drop_of_length_le h]; simp
theorem slice_take (w : List Nat) (k : Nat) (hk : 0 < k) : PySem.Txt.slice (sOf w) none (some (-(k : Int))) = sOf (w.take (w.length - k)) := by
  have hn := sOf_length w
  rw [slice_eq (sOf w) none (some (-(k : Int))) 0 (w.length - k) (by (first | lia | omega)) (by (first | lia | omega)) (by
    simp only [strSliceIndices, hn]
    have h1 : (-(k : Int)) < 0 := by (first | lia | omega)
    have h2 : ¬ (((0 : Nat) : Int) < 0) := by (first | lia | omega)
    have h3 : ¬ (((w.length - k : Nat) : Int) < 0) := by (first | lia | omega)
    simp only [h1, h2, h3, if_false, if_true, show ((1 : Int) > 0) = True from by simp]
    congr 1 <;> (first | lia | omega))]
  unfold sOf
  simp
theorem slice_all (w : List Nat) : PySem.Txt.slice (sOf w) none none = sOf w := by
  have hn := sOf_length w
  rw [slice_eq (sOf w) none none 0 w.length (by (first | lia | omega)) (by (first | lia | omega)) (by
    simp only [strSliceIndices, hn]
    have h2 : ¬ (((0 : Nat) : Int) < 0) := by (first | lia | omega)
    have h3 : ¬ ((w.length : Int) < 0) := by (first | lia | omega)
    simp only [h2, h3, if_false, if_true, show ((1 : Int) > 0) = True from by simp]
    congr 1 <;> (first | lia | omega))]
  unfold sOf
  simp

section
variable {c : Cx} {σ σ₁ : AS}
def PartIs (v : Value) : Option Int → Prop
  | none => v = .none
  | some i => ∃ t, v = .int i t
def Cx.EPart (c : Cx) (x : Option Expr) (σ : AS) (o : Option Int) : Prop :=
  ∀ (E Q : Value → Shared → Prop) (s : Shared), c.St σ s → (∀ v s', c.St σ s' → Sub (c.fz σ s) (c.fz σ s') → PartIs v o → Q v s') → c.wp (evalPart x c.env) Q E s
theorem EPart_no : c.EPart none σ none := fun E Q s x h => by rw [evalPart_none]; exact wpAny_pure (h _ _ x Sub.rfl rfl)
theorem EPart_int {e : Expr} {i : Int} (he : c.EV e σ (.int i) σ) : c.EPart (some e) σ (some i) := fun E Q s x h => by rw [evalPart_some]; exact he _ _ s x fun v s' x' k' r' => h v s' x' k' r'.int
theorem EPart_none {e : Expr} (he : c.EV e σ .none σ) : c.EPart (some e) σ none := fun E Q s x h => by rw [evalPart_some]; exact he _ _ s x fun v s' x' k' r' => h v s' x' k' r'.none
theorem part_value {v : Value} {o : Option Int} (h : PartIs v o) : ∃ p : Option (Int × Tok), v = partValue p ∧ p.map (·.1) = o := by
  cases o with
  | none => exact ⟨none, h, rfl⟩
  | some i => obtain ⟨t, rfl⟩ := h; exact ⟨some (i, t), rfl, rfl⟩
theorem EV_sliceS {value : Expr} {lower upper : Option Expr} {p pos : Pos} {x : Str} {lo hi : Option Int} (hv : c.EV value σ (.str x) σ₁) (hl : c.EPart lower σ₁ lo) (hu : c.EPart upper σ₁ hi) (hz : x.length < 100000)
    (ht : ∀ o r, letTemporaryGo value o r = pure () := by intro _ _; rfl) : c.EV (.Subscript value (.Slice lower upper none p) pos) σ (.str (PySem.Txt.slice x lo hi)) σ₁ := fun E Q s y hq =>
  wpAny_Subscript_str_slice (hv _ _ s y fun v s₁ y₁ k₁ r₁ => hl _ _ s₁ y₁ fun vl s₂ y₂ k₂ r₂ => hu _ _ s₂ y₂ fun vu s₃ y₃ k₃ r₃ => by
    obtain ⟨t, rfl⟩ := r₁.str
    obtain ⟨pl, rfl, rfl⟩ := part_value r₂
    obtain ⟨pu, rfl, rfl⟩ := part_value r₃
    refine ⟨x, t, pl, pu, rfl, rfl, rfl, post_val_or_str ⟨?_, fun t' k => ?_⟩⟩
    · show (PySem.Txt.slice x _ _).length ≤ sizeLine
      have := PyProof.Txt.length_slice_le x (pl.map (·.1)) (pu.map (·.1))
      rw [sizeLine_eq]; (first | lia | omega)
    · obtain ⟨z, q⟩ := Mine.St.grow y₃ (h' := s₃.heap.push { cls := .type "slice", data := .fields #[partValue pl, partValue pu, .none] }) (fun _ _ e => Heap.get?_push_of_some _ e) k
      exact hq _ _ z (((k₁.trans k₂).trans k₃).trans q) (VRel.mkStr ..)) ht
theorem EV_dropW {value e : Expr} {p pos : Pos} {w : List Nat} {k : Nat} (hv : c.EV value σ (.w w) σ₁) (he : c.EV e σ₁ (.int k) σ₁) (hz : w.length < 100000)
    (ht : ∀ o r, letTemporaryGo value o r = pure () := by intro _ _; rfl) : c.EV (.Subscript value (.Slice (some e) none none p) pos) σ (.w (w.drop k)) σ₁ := by
  have := EV_sliceS (p := p) (pos := pos) hv (EPart_int he) EPart_no (by rw [sOf_length]; exact hz) ht
  rw [slice_drop] at this
  exact this
theorem EV_takeW {value e₁ e₂ : Expr} {p q pos : Pos} {w : List Nat} {k : Nat} (hv : c.EV value σ (.w w) σ₁) (he : c.EV e₁ σ₁ (.int (-(k : Int))) σ₁) (hn : c.EV e₂ σ₁ .none σ₁) (hz : w.length < 100000)
    (ht : ∀ o r, letTemporaryGo value o r = pure () := by intro _ _; rfl) : c.EV (.Subscript value (.Slice none (some (.BoolOp .Or [e₁, e₂] q)) none p) pos) σ (.w (w.take (w.length - k))) σ₁ := by
  by_cases hk : k = 0
  · subst hk
    have := EV_sliceS (p := p) (pos := pos) hv EPart_no (EPart_none (EV_or_f (p := q) he TT_int hn)) (by rw [sOf_length]; exact hz) ht
    rw [slice_all] at this
    simpa using this
  · have ht' : c.TT (.int (-(k : Int))) σ₁ true := by
      have := TT_int (c := c) (σ := σ₁) (i := -(k : Int))
      rwa [show (-(k : Int) != 0) = true from by simp; (first | lia | omega)] at this
    have := EV_sliceS (p := p) (pos := pos) hv EPart_no (EPart_int (EV_or_t (p := q) (e₂ := e₂) he ht')) (by rw [sOf_length]; exact hz) ht
    rw [slice_take w k (by (first | lia | omega))] at this
    exact this
theorem TT_W {w : List Nat} (hz : w.length < 100000) : c.TT (.w w) σ (!w.isEmpty) := by
  have := TT_str (c := c) (σ := σ) (y := sOf w) (by rw [sOf_length]; (first | lia | omega))
  rw [sOf_length] at this
  have e : ((w.length : Int) != 0) = !w.isEmpty := by cases w <;> simp; (first | lia | omega)
  rwa [e] at this
/-- a sign from the end -/
theorem OP_backW {value slice : Expr} {w : List Nat} {k : Nat} {ch : Nat} (hk : k < w.length) (hx : w[w.length - 1 - k]? = some ch) (hz : w.length < 100000)
    (hs : ∀ a u t, subscripted slice false (.str a t) (.int (-(k : Int) - 1) u) = operate [.str a t, .int (-(k : Int) - 1) u] (getItem (.str a t) (.int (-(k : Int) - 1) u)) := by intro _ _ _; with_unfolding_all rfl) :
    c.OP2 (subscriptTail value slice) (.w w) (.int (-(k : Int) - 1)) σ (.w [ch]) σ := by
  refine OP_itemStr (j := w.length - 1 - k) ?_ (by simpa [sOf] using hx) (by (first | lia | omega)) (by (first | lia | omega)) hs
  rw [sOf_length]
  unfold seqIndex?
  have e1 : -(k : Int) - 1 < 0 := by (first | lia | omega)
  have e2 : (decide (0 ≤ -(k : Int) - 1 + (w.length : Int)) && decide (-(k : Int) - 1 + (w.length : Int) < (w.length : Int))) = true := by
    simp only [Bool.and_eq_true, decide_eq_true_eq]; (first | lia | omega)
  simp only [e1, if_true, e2]
  congr 1; (first | lia | omega)
end
end Mine

end

noncomputable section
open PySem PySem.W PyProof.Rows PySem.Calls
set_option Elab.async false
set_option linter.unusedVariables false
set_option maxRecDepth 100000
namespace Mine

theorem up_size (n : Nat) : Builtin.Range.rangeSize 0 (n : Int) 1 = n := by rw [rangeSize_one]; split <;> (first | lia | omega)
theorem up_length (n : Nat) : (itemsOf (.rng 0 (n : Int) 1)).length = n := by simp [itemsOf, up_size]
theorem up_item {n k : Nat} {d : AV} (h : (itemsOf (.rng 0 (n : Int) 1))[k]? = some d) : k < n ∧ d = .int k := by
  have hk : k < n := by have := (List.getElem?_eq_some_iff.mp h).1; rwa [up_length] at this
  refine ⟨hk, ?_⟩
  simp only [itemsOf, up_size, Int.toNat_natCast, List.getElem?_map, List.getElem?_range hk, Option.map_some, Option.some.injEq] at h
  rw [← h]; simp
theorem up_ok {n : Nat} (h : n < 1000000) : IterOk (.rng 0 (n : Int) 1) := small_one (by decide) (by decide) (by (first | lia | omega)) (by (first | lia | omega))
theorem down_size (n : Nat) : Builtin.Range.rangeSize (n : Int) (-1) (-1) = (n : Int) + 1 := by
  unfold Builtin.Range.rangeSize
  rw [if_neg (by decide), if_pos (by (first | lia | omega))]
  simp
theorem down_length (n : Nat) : (itemsOf (.rng (n : Int) (-1) (-1))).length = n + 1 := by simp only [itemsOf, down_size, List.length_map, List.length_range]; (first | lia | omega)
theorem down_item {n k : Nat} {d : AV} (h : (itemsOf (.rng (n : Int) (-1) (-1)))[k]? = some d) : k ≤ n ∧ d = .int ((n - k : Nat) : Int) := by
  have hk : k < n + 1 := by have := (List.getElem?_eq_some_iff.mp h).1; rwa [down_length] at this
  refine ⟨by (first | lia | omega), ?_⟩
  have e : ((n : Int) + 1).toNat = n + 1 := by (first | lia | omega)
  simp only [itemsOf, down_size, e, List.getElem?_map, List.getElem?_range hk, Option.map_some, Option.some.injEq] at h
  rw [← h]
  show AV.int _ = AV.int _
  congr 1; congr 1; (first | lia | omega)
theorem down_ok {n : Nat} (h : n < 1000000) : IterOk (.rng (n : Int) (-1) (-1)) := by
  show Builtin.Range.small _ _ _ = true
  unfold Builtin.Range.small
  rw [down_size]
  simp only [Builtin.Range.rangeFitsLong, Bool.and_eq_true, Bool.or_eq_true, decide_eq_true_eq, beq_iff_eq, show ¬ ((-1 : Int) > 0) by decide, if_false]
  (first | lia | omega)

section
variable {c : Cx} {σ σ₁ σ₂ σ₃ : AS} {P : AFl → AS → Prop} {rest : List Stmt}
theorem TV_eq {e : Expr} {b b' : Bool} (h : c.TV e σ b σ₁) (hb : b = b') : c.TV e σ b' σ₁ := hb ▸ h
theorem TT_eq {d : AV} {b b' : Bool} (h : c.TT d σ b) (hb : b = b') : c.TT d σ b' := hb ▸ h
theorem EV_eq {e : Expr} {d d' : AV} (h : c.EV e σ d σ₁) (hd : d = d') : c.EV e σ d' σ₁ := hd ▸ h
theorem OPs_eq {f : List Value → Sem Value} {ds ds' : List AV} {d : AV} (h : c.OPs f ds σ d σ₁) (hd : ds = ds') : c.OPs f ds' σ d σ₁ := hd ▸ h
theorem TV_and1 {e : Expr} {p : Pos} {b : Bool} (h : c.TV e σ b σ₁) : c.TV (.BoolOp .And [e] p) σ b σ₁ := by
  cases b with
  | true => exact TV_and_t h TV_and_nil
  | false => exact TV_and_f h
theorem TV_or1 {e : Expr} {p : Pos} {b : Bool} (h : c.TV e σ b σ₁) : c.TV (.BoolOp .Or [e] p) σ b σ₁ := by
  cases b with
  | true => exact TV_or_t h
  | false => exact TV_or_f h TV_or_nil

theorem EP_callT {f : Str} {fp p : Pos} {args : List Expr} {T : String} {ds : List AV} {P₀ : AV → AS → Prop} (hf : c.EV (.Name f fp) σ (.raw (.type T)) σ₁) (ha : c.EVs args σ₁ ds σ₂) (ho : c.OPsP (fun vs => call (.type T) vs) ds σ₂ P₀)
    (hp : (starEach args c.env).any (·.1) = false := by rfl)
    (hne : ∃ x rest, backTo p (starEach args c.env) = (false, x) :: rest := by exact ⟨_, _, rfl⟩) : c.EP (.Call (.Name f fp) args [] p) σ P₀ := fun E Q s x h =>
  wpAny_Call_NameR (hf _ _ s x fun v s₁ x₁ k₁ r₁ => by
    obtain rfl : v = .type T := r₁
    exact PyProof.Rows.callWith_type (backTo_plain _ _ _ hp) (evalArgs_of hne (ha p _ _ s₁ x₁ fun vs s₂ x₂ k₂ r₂ => ho _ _ s₂ vs x₂ r₂ fun r' s₃ d σ' hp' x₃ k₃ r₃ => h r' s₃ d σ' hp' x₃ ((k₁.trans k₂).trans k₃) r₃)))
theorem vrels_of {g : Heap} : ∀ {vs : List Value} {ds : List AV}, vs.length = ds.length → (∀ (i : Nat) v d, vs[i]? = some v → ds[i]? = some d → VRel g v d) → VRels g vs ds
  | [], [], _, _ => trivial
  | v :: vs, d :: ds, hl, h => ⟨h 0 v d rfl rfl, vrels_of (by simpa using hl) fun i v d h1 h2 => h (i + 1) v d (by simpa using h1) (by simpa using h2)⟩
  | [], _ :: _, hl, _ => by simp at hl
  | _ :: _, [], hl, _ => by simp at hl
theorem OPsP_listRange {x y z : Int} (hh : c.A.handled = none) (ok : IterOk (.rng x y z)) (hz : (Builtin.Range.rangeSize x y z).toNat < 1000000) :
    c.OPsP (fun vs => call (.type "list") vs) [.rng x y z] σ (fun d σ' => ∃ a, d = .raw (.ref a) ∧ σ' = ⟨σ.loc, (a, .list (itemsOf (.rng x y z))) :: σ.mem⟩) := fun E Q s vs st r h => by
  replace r := VRels.one r
  obtain ⟨v, rfl, ⟨r, t, u, w, hv, hr⟩⟩ := r
  subst hv
  refine call_list_range (n := (Builtin.Range.rangeSize x y z).toNat) hh (st.sub_heap _ _ hr) ok (by have := rangeSize_nonneg x y z; (first | lia | omega)) (by (first | lia | omega)) fun h' tk acc c' hk ho hi => ?_
  obtain ⟨st', k⟩ := Mine.St.new st (a := s.heap.objs.size) (c := .list (itemsOf (.rng x y z))) (h' := h') hk (fresh_none _) tk (fun g hg => ⟨acc.toList, c', by simpa using ho, vrels_of (by simp [itemsOf, hi.1]) fun i v d h1 h2 => by
    obtain ⟨t, rfl⟩ := hi.2 i v (by simpa using h1)
    have hlt : i < (Builtin.Range.rangeSize x y z).toNat := by
      have := (List.getElem?_eq_some_iff.mp h2).1; simpa [itemsOf] using this
    simp only [itemsOf, List.getElem?_map, List.getElem?_range hlt, Option.map_some, Option.some.injEq] at h2
    rw [← h2]; exact VRel.mkInt ..⟩)
  exact h _ _ _ _ ⟨_, rfl, rfl⟩ st' k rfl
theorem OPsP_listCopy {ds : List PyData} (hz : ds.length < 1000000) :
    c.OPsP (fun vs => call (.type "list") vs) [.dat (.list ds)] σ (fun d σ' => ∃ a, d = .raw (.ref a) ∧ σ' = ⟨σ.loc, (a, .list (ds.map .dat)) :: σ.mem⟩) := fun E Q s vs st r h => by
  replace r := VRels.one r
  obtain ⟨v, rfl, ⟨as, r⟩⟩ := r
  cases r with
  | @list a o vs n _ as h1 h2 h3 h4 =>
    have hlen := VRels.length (VRels.of_reads h4)
    rw [List.length_map] at hlen
    have hsz : vs.size = ds.length := by rw [← hlen]; simp
    refine call_list_seq a (.inl rfl) (st.sub_heap _ _ h1) h2 h3 (fun h' c' hk ho => ?_) (by rw [sizeLine_eq]; (first | lia | omega))
    obtain ⟨st', k⟩ := Mine.St.new st (a := s.heap.objs.size) (c := .list (ds.map .dat)) (h' := h') hk (fresh_none _) s.toks (fun g hg => ⟨vs.toList, c', by simpa using ho, (VRels.of_reads h4).mono hg⟩)
    exact h _ _ _ _ ⟨_, rfl, rfl⟩ st' k rfl

theorem isTuple_of {g : Heap} {v : Value} {ds : List PyData} (r : VRel g v (.dat (.tuple ds))) : ∃ t vs as, v = .ref t ∧ g.IsTuple t vs ∧ ReadsAll g vs.toList ds as := by
  obtain ⟨as, r⟩ := r
  cases r with
  | @tuple a o vs n _ as h1 h2 h3 h4 => exact ⟨a, vs, as, rfl, ⟨o, h1, h2, n, h3⟩, h4⟩
theorem extBut_sub {h h' : Heap} (e : Heap.ExtBut h.objs.size h h') : Sub h h' := fun b o q => e b o (Nat.ne_of_lt (Heap.lt_size q)) q
/-- x, y = a pair -/
theorem Asg_tuple2 {x y : Str} {k : Nat} {p p₁ p₂ : Pos} {d₁ d₂ : PyData} (hh : c.A.handled = none) (hk : c.env.scope.kind = .function := by rfl) (hx : c.env.kindOf x = some .local := by rfl) (hy : c.env.kindOf y = some .local := by rfl) :
    c.Asg (.Tuple [.Name x p₁, .Name y p₂] k p) (.dat (.tuple [d₁, d₂])) σ ((σ.set x (.dat d₁)).set y (.dat d₂)) := fun E Q s v st r h => by
  obtain ⟨t, vs, as, rfl, ht, ra⟩ := isTuple_of r
  have ht' : s.heap.IsTuple t vs := let ⟨o, h1, r⟩ := ht; ⟨o, st.sub_heap _ _ h1, r⟩
  have hl := VRels.length (VRels.of_reads ra)
  have hsz : vs.size = 2 := by simpa using hl
  refine wpAny_assign_Tuple hh ht' (by rw [hsz]; rfl) rfl fun h' he => ?_
  obtain ⟨st₁, k₁⟩ := Mine.St.grow st (extBut_sub he) s.toks
  obtain ⟨v₁, v₂, hv⟩ := len2 (l := vs.toList) hl
  rw [hv] at ra ⊢
  cases ra with
  | cons r₁ ra =>
    cases ra with
    | cons r₂ ra =>
      show wpAny _ _ (do holding [v₂] (assign (.Name x p₁) c.env v₁); (do holding [] (assign (.Name y p₂) c.env v₂); pure ())) _ _ _
      refine wpAny_bind (wpAny_holding (wpAny_assign_Name (store_local (d := .dat d₁) st₁ ⟨_, Reads.keeps k₁ r₁⟩ (fun s₂ st₂ k₂ => ?_) hk hx)))
      refine wpAny_bind (wpAny_holding (wpAny_assign_Name (store_local (d := .dat d₂) st₂ ⟨_, Reads.keeps (k₁.trans k₂) r₂⟩ (fun s₃ st₃ k₃ => ?_) hk hy)))
      exact wpAny_pure (h _ st₃ ((k₁.trans k₂).trans k₃))
/-- x, y = (e₁, e₂), the names of the frame alone -/
theorem EX_swap {x y : Str} {k k' : Nat} {p p' p'' p₁ p₂ : Pos} {e₁ e₂ : Expr} {d₁ d₂ : PyData} (hh : c.A.handled = none) (he : c.EV (.Tuple [e₁, e₂] k' p') σ (.dat (.tuple [d₁, d₂])) σ₁) (hr : c.EX rest ((σ₁.set y (.dat d₂)).set x (.dat d₁)) P)
    (hw : swappedStores [.Tuple [.Name x p₁, .Name y p₂] k p''] (.Tuple [e₁, e₂] k' p') c.env = pure (some [x, y])) (hs : swapsWithSole [.Tuple [.Name x p₁, .Name y p₂] k p''] (.Tuple [e₁, e₂] k' p') p.line c.env = pure false := by rfl)
    (hk : c.env.scope.kind = .function := by rfl) (hx : c.env.kindOf x = some .local := by rfl) (hy : c.env.kindOf y = some .local := by rfl) :
    c.EX (.Assign [.Tuple [.Name x p₁, .Name y p₂] k p''] (.Tuple [e₁, e₂] k' p') p :: rest) σ P := EX_cons fun E Q s st hq => by
  show wpAny _ _ (exec _ _) _ _ _
  rw [PyProof.Rows.exec_Assign]
  refine wpAny_bind (wpAny_standAt ?_)
  rw [hs]
  refine wpAny_bind (wpAny_pure ?_)
  rw [if_neg (by decide)]
  refine wpAny_bind (he _ _ s st fun v s₁ st₁ k₁ r => ?_)
  rw [hw]
  refine wpAny_bind (wpAny_pure ?_)
  show wpAny _ _ (do rule "assign.swapped-stores"; let items ← unpackItems v 2 none; assignInOrder [fun u => bindName c.env y u, fun u => bindName c.env x u] items.reverse; pure Flow.next) _ _ _
  refine wpAny_bind (wpAny_rule ?_)
  obtain ⟨t, vs, as, rfl, ht, ra⟩ := isTuple_of r
  have ht' : s₁.heap.IsTuple t vs := let ⟨o, h1, r⟩ := ht; ⟨o, st₁.sub_heap _ _ h1, r⟩
  have hl := VRels.length (VRels.of_reads ra)
  have hsz : vs.size = 2 := by simpa using hl
  rw [← hsz]
  refine wpAny_bind (wpAny_unpackItems_tuple hh ht' fun h' hx' => ?_)
  obtain ⟨st₂, k₂⟩ := Mine.St.grow st₁ (extBut_sub hx') s₁.toks
  obtain ⟨v₁, v₂, hv⟩ := len2 (l := vs.toList) hl
  rw [hv] at ra ⊢
  cases ra with
  | cons r₁ ra =>
    cases ra with
    | cons r₂ ra =>
      show wpAny _ _ (do (do holding [v₁] (bindName c.env y v₂); (do holding [] (bindName c.env x v₁); pure ())); pure Flow.next) _ _ _
      refine wpAny_bind (wpAny_bind (wpAny_holding (wpAny_bindName (store_local (d := .dat d₂) st₂ ⟨_, Reads.keeps k₂ r₂⟩ (fun s₃ st₃ k₃ => ?_) hk hy))))
      refine wpAny_bind (wpAny_holding (wpAny_bindName (store_local (d := .dat d₁) st₃ ⟨_, Reads.keeps (k₂.trans k₃) r₁⟩ (fun s₄ st₄ k₄ => ?_) hk hx)))
      exact wpAny_pure (wpAny_pure (hq _ _ .next _ hr st₄ (((k₁.trans k₂).trans k₃).trans k₄) trivial))
end
end Mine

end

noncomputable section
open PySem PySem.W PyProof.Rows PySem.Calls
set_option Elab.async false
set_option linter.unusedVariables false
set_option maxRecDepth 100000
namespace Mine

def inner (bch : Nat) : List Nat → List Nat → Nat → Nat → List Nat × Nat
  | x :: xs, rw :: row, d, r => ((min (min r rw + 2) (d + subCost bch x)) :: (inner bch xs row rw (min (min r rw + 2) (d + subCost bch x))).1, (inner bch xs row rw (min (min r rw + 2) (d + subCost bch x))).2)
  | _, row, _, r => (row, r)
def outer (a : List Nat) : List Nat → Nat → List Nat → Nat → Nat
  | [], _, _, r => r
  | y :: ys, bi, row, _ => outer a ys (bi + 1) (inner y a row (2 * bi) (2 * bi)).1 (inner y a row (2 * bi) (2 * bi)).2
def row0 (n : Nat) : List Nat := (List.range n).map fun i => 2 * (i + 1)
def core (a b : List Nat) : Nat := outer a b 0 (row0 a.length) 0
def pref : List Nat → List Nat → Nat
  | x :: xs, y :: ys => if x = y then pref xs ys + 1 else 0
  | _, _ => 0
def lev2 (a b : List Nat) : Nat := if a = [] ∨ b = [] then 2 * (a.length + b.length) else if b.length < a.length then core b a else core a b
def cut (a b : List Nat) : List Nat := a.take (a.length - pref a.reverse b.reverse)
def lev (a b : List Nat) : Nat := if a = b then 0 else lev2 (cut (a.drop (pref a b)) (b.drop (pref a b))) (cut (b.drop (pref a b)) (a.drop (pref a b)))

theorem pref_comm : ∀ a b, pref a b = pref b a
  | [], [] => rfl
  | [], _ :: _ => rfl
  | _ :: _, [] => rfl
  | x :: xs, y :: ys => by
    simp only [pref]
    by_cases h : x = y
    · rw [if_pos h, if_pos h.symm, pref_comm xs ys]
    · rw [if_neg h, if_neg fun e => h e.symm]
theorem pref_le : ∀ a b, pref a b ≤ a.length
  | [], _ => by simp [pref]
  | _ :: _, [] => by simp [pref]
  | x :: xs, y :: ys => by
    simp only [pref]
    split
    · have := pref_le xs ys; simp; omega
    · simp
theorem pref_step {a b : List Nat} {k x y : Nat} {xs ys : List Nat} (ha : a.drop k = x :: xs) (hb : b.drop k = y :: ys) : pref (a.drop k) (b.drop k) = if x = y then pref (a.drop (k + 1)) (b.drop (k + 1)) + 1 else 0 := by
  have h1 : a.drop (k + 1) = xs := by rw [← List.drop_drop, ha]; rfl
  have h2 : b.drop (k + 1) = ys := by rw [← List.drop_drop, hb]; rfl
  rw [ha, hb, h1, h2]; rfl
theorem drop_get {a : List Nat} {k x : Nat} {xs : List Nat} (h : a.drop k = x :: xs) : a[k]? = some x ∧ k < a.length := by
  have : (a.drop k)[0]? = some x := by rw [h]; rfl
  rw [List.getElem?_drop, Nat.add_zero] at this
  exact ⟨this, (List.getElem?_eq_some_iff.mp this).1⟩
theorem rev_take {a : List Nat} {k : Nat} : a.take (a.length - k) = (a.reverse.drop k).reverse := by
  rw [List.drop_reverse, List.reverse_reverse]
theorem rev_get {a : List Nat} {k x : Nat} {xs : List Nat} (h : a.reverse.drop k = x :: xs) : a[a.length - 1 - k]? = some x ∧ k < a.length := by
  obtain ⟨h1, h2⟩ := drop_get h
  rw [List.length_reverse] at h2
  rw [List.getElem?_reverse h2] at h1
  exact ⟨h1, h2⟩

theorem inner_length (bch : Nat) : ∀ xs row d r, (inner bch xs row d r).1.length = row.length
  | [], row, _, _ => by simp [inner]
  | _ :: _, [], _, _ => by simp [inner]
  | x :: xs, rw :: row, d, r => by simp [inner, inner_length bch xs row]

theorem K_lev : FnOk 13 ["a", "b", "max_cost"] := ⟨rfl, fun _ _ _ _ _ _ => vals3 fun _ _ _ => rfl, by decide, by decide, by decide, rfl, rfl, rfl⟩

def rowA (l : List Nat) : List AV := l.map fun (n : Nat) => AV.int (n : Int)
theorem rowA_get {l : List Nat} {i x : Nat} (h : l[i]? = some x) : (rowA l)[((i : Nat) : Int).toNat]? = some (.int (x : Int)) := by
  rw [Int.toNat_natCast, rowA, List.getElem?_map, h]; rfl

section
variable {c : Cx} {mg mb : Str → Option Value} {L' : Addr} {qual : Str} {doc pm code ct : Value} {an : Option Addr} {fr : List (Addr × ACell)} {P : AFl → AS → Prop}

theorem row_items (n : Nat) : itemsOf (.rng 2 (2 * ((n : Int) + 1)) 2) = rowA (row0 n) := by
  have hs : Builtin.Range.rangeSize 2 (2 * ((n : Int) + 1)) 2 = n := by
    unfold Builtin.Range.rangeSize
    rw [if_pos (by decide)]
    split <;> (first | lia | omega)
  simp only [itemsOf, hs, rowA, row0, Int.toNat_natCast, List.map_map]
  refine List.map_congr_left fun i hi => ?_
  show AV.int _ = AV.int _
  congr 1; congr 1
  show (2 : Int) + (i : Nat) * 2 = ((2 * (i + 1) : Nat) : Int)
  (first | lia | omega)
theorem row_ok (n : Nat) (h : n < 1000) : IterOk (.rng 2 (2 * ((n : Int) + 1)) 2) ∧ (Builtin.Range.rangeSize 2 (2 * ((n : Int) + 1)) 2).toNat < 1000000 := by
  have hs : Builtin.Range.rangeSize 2 (2 * ((n : Int) + 1)) 2 = n := by
    unfold Builtin.Range.rangeSize
    rw [if_pos (by decide)]
    split <;> (first | lia | omega)
  refine ⟨?_, by rw [hs]; (first | lia | omega)⟩
  show Builtin.Range.small _ _ _ = true
  unfold Builtin.Range.small
  rw [hs, if_pos (show (2 : Int) > 0 by decide)]
  have f : ∀ x : Int, -1000000 ≤ x → x ≤ 1000000 → Builtin.Range.rangeFitsLong x = true := fun x h1 h2 => by
    unfold Builtin.Range.rangeFitsLong
    rw [Bool.and_eq_true, decide_eq_true_eq, decide_eq_true_eq]
    (first | lia | omega)
  rw [f _ (by (first | lia | omega)) (by (first | lia | omega)), f _ (by (first | lia | omega)) (by (first | lia | omega)), f _ (by (first | lia | omega)) (by (first | lia | omega)), f _ (by (first | lia | omega)) (by (first | lia | omega))]
  simp
theorem noPy2 (x : Int) : Builtin.divisionGoesByPylong x 2 = false := by
  unfold Builtin.divisionGoesByPylong
  simp only [Bool.and_eq_false_iff]
  exact .inl (by decide +kernel)

/-- the table's rows -/
theorem lev_p4 (G : Gd c.S₀ mg mb) (hA : AOk c.A 2) {a b : List Nat} (ha : ∀ n ∈ a, Ch n) (hb : ∀ n ∈ b, Ch n) (hla : a.length < 10) (hlb : b.length < 10) (hne : 0 < a.length) (hle : a.length ≤ b.length)
    (hP : ∀ σ', P (.ret (.int (core a b))) σ') :
    (c.in (fdOf (pst 13) qual doc pm code ct an) 70 L' fr).EX ((bodyOf (pst 13)).drop 12) (mk [("a", .w a), ("b", .w b), ("max_cost", .int 99)] []) P := by
  have hA1 := hA.in (n := 1) (callEnv (fdOf (pst 13) qual doc pm code ct an) L' 70)
  refine EX_if (TV_cmp (EV_bin (EV_bin (EV_callB (EV_bl G rfl) (EVs_cons (EV_local rfl) EVs_nil) (OPs_lenStr (by rw [sOf_length]; (first | lia | omega)))) (EV_callB (EV_bl G rfl) (EVs_cons (EV_local rfl) EVs_nil) (OPs_lenStr (by rw [sOf_length]; (first | lia | omega)))) OP_sub) (EV_rawInt (EV_gl G rfl)) (OP_mul (IntMulOk.of_right (by decide)))) (EV_local rfl) OP_gt)
    (fun hv => ?_) (fun hv => EX_nil ?_)
  · exfalso
    have := of_decide_eq_true hv
    rw [sOf_length, sOf_length] at this
    (first | lia | omega)
  refine EX_assignP (EP_callT (EV_bl G rfl) (EVs_cons (EV_callT (EV_bl G rfl) (EVs_cons (EV_rawInt (EV_gl G rfl)) (EVs_cons (EV_bin (EV_rawInt (EV_gl G rfl)) (EV_bin (EV_callB (EV_bl G rfl) (EVs_cons (EV_local rfl) EVs_nil) (OPs_lenStr (by rw [sOf_length]; (first | lia | omega)))) EV_int OP_add) (OP_mul (IntMulOk.of_left (by decide)))) (EVs_cons (EV_rawInt (EV_gl G rfl)) EVs_nil))) (OPs_range3 (by decide) (noPy2 _))) EVs_nil)
    (OPsP_listRange hA1.h (by rw [sOf_length]; exact (row_ok a.length (by (first | lia | omega))).1) (by rw [sOf_length]; exact (row_ok a.length (by (first | lia | omega))).2))) ?_
  rintro _ _ ⟨r, rfl, rfl⟩
  rw [sOf_length, row_items]
  refine EX_assign EV_int ?_
  refine EX_for (J := fun k σ' => ∃ (row : List Nat) (res : Nat), row.length = a.length ∧ outer a b 0 (row0 a.length) 0 = outer a (b.drop k) k row res ∧
      σ' = mk [("a", .w a), ("b", .w b), ("max_cost", .int 99), ("row", .raw (.ref r)), ("result", .int res)] [(r, .list (rowA row))])
    (EV_callT (EV_bl G rfl) (EVs_cons (EV_callB (EV_bl G rfl) (EVs_cons (EV_local rfl) EVs_nil) (OPs_lenStr (by rw [sOf_length]; (first | lia | omega)))) EVs_nil) OPs_range1) (by rw [sOf_length]; exact up_ok (by (first | lia | omega))) hA1.h Own_name
    (Le.mk (l := [("a", .w a), ("b", .w b), ("max_cost", .int 99), ("row", .raw (.ref r)), ("result", .int 0)]) (m := [(r, .list (rowA (row0 a.length)))]) ⟨rfl, rfl, rfl, rfl, rfl, trivial⟩) ⟨row0 a.length, 0, by simp [row0], rfl, rfl⟩ ?_ ?_
  · rintro fr' k d _ ⟨row, res, hrow, hout, rfl⟩ hd
    rw [sOf_length] at hd
    obtain ⟨hk, rfl⟩ := up_item hd
    refine ⟨_, Asg_name, ?_⟩
    obtain ⟨y, hy⟩ : ∃ y, b[k]? = some y := ⟨_, List.getElem?_eq_getElem hk⟩
    have hCy : Ch y := hb y (List.mem_of_getElem? hy)
    have hdr : b.drop k = y :: b.drop (k + 1) := by
      rw [List.drop_eq_getElem_cons hk]; congr 1
      rw [List.getElem?_eq_getElem hk] at hy; exact Option.some.inj hy
    refine EX_assign (EV_sub (EV_local rfl) (EV_local rfl) (OP_itemW (by (first | lia | omega)) (by rw [Int.toNat_natCast]; exact hy) (by (first | lia | omega)))) ?_
    refine EX_assign2 (EV_bin (EV_local rfl) (EV_rawInt (EV_gl G rfl)) (OP_mul (IntMulOk.of_right (by decide)))) ?_
    refine EX_assign EV_int ?_
    have e2 : ((k : Int) * 2) = ((2 * k : Nat) : Int) := by (first | lia | omega)
    rw [e2]
    -- the row's places
    refine EX_for (J := fun j σ' => ∃ (dn : List Nat) (dist res mn : Nat), dn.length = j ∧ res ≤ 2 * k + 2 * j ∧ (0 < j → mn ≤ 2 * k + 2 * j) ∧
        inner y a row (2 * k) (2 * k) = (dn ++ (inner y (a.drop j) (row.drop j) dist res).1, (inner y (a.drop j) (row.drop j) dist res).2) ∧
        σ' = mk [("a", .w a), ("b", .w b), ("max_cost", .int 99), ("row", .raw (.ref r)), ("result", .int res), ("distance", .int dist), ("minimum", .int mn), ("bchar", .w [y]), ("bindex", .int k)] [(r, .list (rowA (dn ++ row.drop j)))])
      (EV_callT (EV_bl G rfl) (EVs_cons (EV_callB (EV_bl G rfl) (EVs_cons (EV_local rfl) EVs_nil) (OPs_lenStr (by rw [sOf_length]; (first | lia | omega)))) EVs_nil) OPs_range1) (by rw [sOf_length]; exact up_ok (by (first | lia | omega))) hA1.h Own_name
      (Le.mk (l := [("a", .w a), ("b", .w b), ("max_cost", .int 99), ("row", .raw (.ref r)), ("result", .int (2 * k : Nat)), ("distance", .int (2 * k : Nat)), ("minimum", .int (9223372036854775807 : Nat)), ("bchar", .w [y]), ("bindex", .int k)]) (m := [(r, .list (rowA row))]) ⟨rfl, rfl, rfl, rfl, rfl, rfl, rfl, rfl, rfl, trivial⟩)
      ⟨[], 2 * k, 2 * k, 9223372036854775807, rfl, by (first | lia | omega), fun h => absurd h (by (first | lia | omega)), by simp, rfl⟩ ?_ ?_
    · rintro fr'' j d _ ⟨dn, dist, res, mn, hdn, hres, hmn, hin, rfl⟩ hd
      rw [sOf_length] at hd
      obtain ⟨hj, rfl⟩ := up_item hd
      refine ⟨_, Asg_name, ?_⟩
      obtain ⟨x, hx⟩ : ∃ x, a[j]? = some x := ⟨_, List.getElem?_eq_getElem hj⟩
      have hCx : Ch x := ha x (List.mem_of_getElem? hx)
      have hdx : a.drop j = x :: a.drop (j + 1) := by
        rw [List.drop_eq_getElem_cons hj]; congr 1
        rw [List.getElem?_eq_getElem hj] at hx; exact Option.some.inj hx
      obtain ⟨rw', hrw⟩ : ∃ rw', row[j]? = some rw' := ⟨_, List.getElem?_eq_getElem (by (first | lia | omega))⟩
      have hdr' : row.drop j = rw' :: row.drop (j + 1) := by
        rw [List.drop_eq_getElem_cons (by (first | lia | omega))]; congr 1
        rw [List.getElem?_eq_getElem (by (first | lia | omega))] at hrw; exact Option.some.inj hrw
      have hcell : (dn ++ row.drop j)[j]? = some rw' := by
        rw [List.getElem?_append_right (by (first | lia | omega)), hdn, Nat.sub_self, List.getElem?_drop, Nat.add_zero]; exact hrw
      have hclen : (dn ++ row.drop j).length = row.length := by simp; (first | lia | omega)
      refine EX_assign (EV_bin (EV_local rfl) (EV_fn (i := 12) G (by decide) (EV_gl G rfl) (EVs_cons (EV_local rfl) (EVs_cons (EV_sub (EV_local rfl) (EV_local rfl) (OP_itemW (by (first | lia | omega)) (by rw [Int.toNat_natCast]; exact hx) (by (first | lia | omega)))) EVs_nil)) (by exact sub_ok (c := ((c.in _ _ _ _).on _).on _) G hA1 hCy hCx)) OP_add) ?_
      refine EX_assign (EV_sub (EV_local rfl) (EV_local rfl) (OP_itemCell (.head _) (by (first | lia | omega)) (rowA_get hcell) (by (first | lia | omega)))) ?_
      refine EX_assign (EV_bin (EV_callB (EV_bl G rfl) (EVs_cons (EV_local rfl) (EVs_cons (EV_local rfl) EVs_nil)) (OPs_min2 hA1.h)) (EV_rawInt (EV_gl G rfl)) OP_add) ?_
      refine EX_assign (EV_callB (EV_bl G rfl) (EVs_cons (EV_local rfl) (EVs_cons (EV_local rfl) EVs_nil)) (OPs_min2 hA1.h)) ?_
      have er : min (min (res : Int) (rw' : Int) + 2) ((dist : Int) + (subCost y x : Nat)) = ((min (min res rw' + 2) (dist + subCost y x) : Nat) : Int) := by (first | lia | omega)
      rw [er]
      refine EX_setItem (EV_local rfl) (EV_local rfl) (EV_local rfl) (by (first | lia | omega)) (by simp [rowA]; (first | lia | omega)) (by simp [rowA]; (first | lia | omega)) .head ?_
      have eset : (rowA (dn ++ row.drop j)).set ((j : Nat) : Int).toNat (.int ((min (min res rw' + 2) (dist + subCost y x) : Nat) : Int)) = rowA ((dn ++ [min (min res rw' + 2) (dist + subCost y x)]) ++ row.drop (j + 1)) := by
        rw [Int.toNat_natCast, rowA, rowA, hdr', ← List.map_set]
        congr 1
        rw [List.set_append_right _ _ (by (first | lia | omega)), hdn, Nat.sub_self]; simp
      rw [eset]
      have hnext : inner y a row (2 * k) (2 * k) = ((dn ++ [min (min res rw' + 2) (dist + subCost y x)]) ++ (inner y (a.drop (j + 1)) (row.drop (j + 1)) rw' (min (min res rw' + 2) (dist + subCost y x))).1,
          (inner y (a.drop (j + 1)) (row.drop (j + 1)) rw' (min (min res rw' + 2) (dist + subCost y x))).2) := by
        rw [hin, hdx, hdr', inner]; simp
      refine EX_if (TV_cmp (EV_local rfl) (EV_local rfl) OP_lt) (fun hv => ?_) (fun hv => ?_)
      · refine EX_assign (EV_local rfl) (EX_nil (EX_nil ?_))
        refine ⟨_, ⟨dn ++ [min (min res rw' + 2) (dist + subCost y x)], rw', min (min res rw' + 2) (dist + subCost y x), min (min res rw' + 2) (dist + subCost y x), by simp [hdn], by (first | lia | omega), fun _ => by (first | lia | omega), hnext, rfl⟩, Le.mk ⟨rfl, rfl, rfl, rfl, rfl, rfl, rfl, rfl, rfl, trivial⟩⟩
      · have := of_decide_eq_false hv
        refine EX_nil (EX_nil ?_)
        refine ⟨_, ⟨dn ++ [min (min res rw' + 2) (dist + subCost y x)], rw', min (min res rw' + 2) (dist + subCost y x), mn, by simp [hdn], by (first | lia | omega), fun _ => by (first | lia | omega), hnext, rfl⟩, Le.mk ⟨rfl, rfl, rfl, rfl, rfl, rfl, rfl, rfl, rfl, trivial⟩⟩
    · rintro _ ⟨dn, dist, res, mn, hdn, hres, hmn, hin, rfl⟩
      rw [sOf_length, up_length] at hdn hres hmn hin ⊢
      refine EX_if (TV_cmp (EV_local rfl) (EV_local rfl) OP_gt) (fun hv => ?_) (fun hv => EX_nil (EX_nil ?_))
      · exfalso
        have := of_decide_eq_true hv
        have := hmn hne
        (first | lia | omega)
      · have e0 : row.drop a.length = [] := List.drop_of_length_le (by (first | lia | omega))
        have e1 : a.drop a.length = [] := List.drop_of_length_le (Nat.le_refl _)
        rw [e0, e1] at hin
        simp only [inner, List.append_nil] at hin
        rw [e0, List.append_nil]
        refine ⟨_, ⟨dn, res, by (first | lia | omega), ?_, rfl⟩, Le.mk ⟨rfl, rfl, rfl, rfl, rfl, trivial⟩⟩
        rw [hout, hdr, outer, hin]
  · rintro _ ⟨row, res, hrow, hout, rfl⟩
    rw [sOf_length, up_length] at hout
    refine EX_ret (EV_local rfl) ?_
    rw [List.drop_of_length_le (Nat.le_refl _), outer] at hout
    have : res = core a b := hout.symm
    subst this
    exact hP _

/-- behind the equal ends -/
theorem lev_p3 (G : Gd c.S₀ mg mb) (hA : AOk c.A 2) {a b : List Nat} {k : Nat} (ha : ∀ n ∈ a, Ch n) (hb : ∀ n ∈ b, Ch n) (hla : a.length < 10) (hlb : b.length < 10)
    (hP : ∀ σ', P (.ret (.int (lev2 (a.take (a.length - k)) (b.take (b.length - k))))) σ') :
    (c.in (fdOf (pst 13) qual doc pm code ct an) 70 L' fr).EX ((bodyOf (pst 13)).drop 7) (mk [("a", .w a), ("b", .w b), ("max_cost", .int 99), ("post", .int (-(k : Int)))] []) P := by
  have hA1 := hA.in (n := 1) (callEnv (fdOf (pst 13) qual doc pm code ct an) L' 70)
  refine EX_assign (EV_takeW (EV_local rfl) (EV_local rfl) EV_none (by (first | lia | omega))) ?_
  refine EX_assign (EV_takeW (EV_local rfl) (EV_local rfl) EV_none (by (first | lia | omega))) ?_
  have hta : ∀ n ∈ a.take (a.length - k), Ch n := fun n hn => ha n (List.mem_of_mem_take hn)
  have htb : ∀ n ∈ b.take (b.length - k), Ch n := fun n hn => hb n (List.mem_of_mem_take hn)
  have hla' : (a.take (a.length - k)).length < 10 := by simp; (first | lia | omega)
  have hlb' : (b.take (b.length - k)).length < 10 := by simp; (first | lia | omega)
  generalize a.take (a.length - k) = u at *
  generalize b.take (b.length - k) = v at *
  refine EX_le (Le.mk (l := [("a", .w u), ("b", .w v), ("max_cost", .int 99)]) (m := []) ⟨rfl, rfl, rfl, trivial⟩) ?_
  have empty : u = [] ∨ v = [] → (c.in (fdOf (pst 13) qual doc pm code ct an) 70 L' fr).EX ((bodyOf (pst 13)).drop 9) (mk [("a", .w u), ("b", .w v), ("max_cost", .int 99)] []) P := fun he => by
    refine EX_if (v := true) (σ₁ := mk [("a", .w u), ("b", .w v), ("max_cost", .int 99)] []) ?_ (fun _ => ?_) (fun h => by cases h)
    · by_cases hu : u = []
      · exact TV_or_t (TV_eq (TV_not (TV_plain (EV_local rfl) (TT_W (by (first | lia | omega))))) (by rw [hu]; rfl))
      · have hv := he.resolve_left hu
        exact TV_or_f (TV_eq (TV_not (TV_plain (EV_local rfl) (TT_W (by (first | lia | omega))))) (by cases u with | nil => exact absurd rfl hu | cons _ _ => rfl)) (TV_or1 (TV_eq (TV_not (TV_plain (EV_local rfl) (TT_W (by (first | lia | omega))))) (by rw [hv]; rfl)))
    · refine EX_ret (EV_bin (EV_rawInt (EV_gl G rfl)) (EV_bin (EV_callB (EV_bl G rfl) (EVs_cons (EV_local rfl) EVs_nil) (OPs_lenStr (by rw [sOf_length]; (first | lia | omega)))) (EV_callB (EV_bl G rfl) (EVs_cons (EV_local rfl) EVs_nil) (OPs_lenStr (by rw [sOf_length]; (first | lia | omega)))) OP_add) (OP_mul (IntMulOk.of_left (by decide)))) ?_
      have : (2 : Int) * (((sOf u).length : Int) + ((sOf v).length : Int)) = (lev2 u v : Nat) := by
        rw [lev2, if_pos he, sOf_length, sOf_length]; push_cast; rfl
      rw [this]
      exact hP _
  by_cases hu : u = []
  · exact empty (.inl hu)
  by_cases hv : v = []
  · exact empty (.inr hv)
  refine EX_if (v := false) (TV_or_f (TV_eq (TV_not (TV_plain (EV_local rfl) (TT_W (by (first | lia | omega))))) (by cases u with | nil => exact absurd rfl hu | cons _ _ => rfl)) (TV_or1 (TV_eq (TV_not (TV_plain (EV_local rfl) (TT_W (by (first | lia | omega))))) (by cases v with | nil => exact absurd rfl hv | cons _ _ => rfl)))) (fun h => by cases h) (fun _ => EX_nil ?_)
  refine EX_if (v := false) (TV_or_f (TV_eq (TV_cmp (EV_callB (EV_bl G rfl) (EVs_cons (EV_local rfl) EVs_nil) (OPs_lenStr (by rw [sOf_length]; (first | lia | omega)))) (EV_rawInt (EV_gl G rfl)) OP_gt) (decide_eq_false (by rw [sOf_length]; (first | lia | omega))))
    (TV_or1 (TV_eq (TV_cmp (EV_callB (EV_bl G rfl) (EVs_cons (EV_local rfl) EVs_nil) (OPs_lenStr (by rw [sOf_length]; (first | lia | omega)))) (EV_rawInt (EV_gl G rfl)) OP_gt) (decide_eq_false (by rw [sOf_length]; (first | lia | omega)))))) (fun h => by cases h) (fun _ => EX_nil ?_)
  have hpu : 0 < u.length := List.length_pos_iff.mpr hu
  have hpv : 0 < v.length := List.length_pos_iff.mpr hv
  refine EX_if (TV_cmp (EV_callB (EV_bl G rfl) (EVs_cons (EV_local rfl) EVs_nil) (OPs_lenStr (by rw [sOf_length]; (first | lia | omega)))) (EV_callB (EV_bl G rfl) (EVs_cons (EV_local rfl) EVs_nil) (OPs_lenStr (by rw [sOf_length]; (first | lia | omega)))) OP_lt) (fun h => ?_) (fun h => EX_nil ?_)
  · have hlt : v.length < u.length := by have := of_decide_eq_true h; rw [sOf_length, sOf_length] at this; (first | lia | omega)
    refine EX_swap hA1.h (EV_tuple (ds := [.str (sOf v), .str (sOf u)]) (EVs_cons (EV_local rfl) (EVs_cons (EV_local rfl) EVs_nil))) (EX_nil ?_) (by rfl)
    refine EX_le (Le.mk (l := [("a", .w v), ("b", .w u), ("max_cost", .int 99)]) (m := []) ⟨rfl, rfl, rfl, trivial⟩) ?_
    refine lev_p4 G hA htb hta hlb' hla' hpv (by (first | lia | omega)) ?_
    rw [lev2, if_neg (by rintro (e | e); exact hu e; exact hv e), if_pos hlt] at hP
    exact hP
  · have hlt : ¬ v.length < u.length := by have := of_decide_eq_false h; rw [sOf_length, sOf_length] at this; (first | lia | omega)
    refine lev_p4 G hA hta htb hla' hlb' hpu (by (first | lia | omega)) ?_
    rw [lev2, if_neg (by rintro (e | e); exact hu e; exact hv e), if_neg hlt] at hP
    exact hP

/-- behind the equal beginnings -/
theorem lev_p2 (G : Gd c.S₀ mg mb) (hA : AOk c.A 2) {a₀ b₀ : List Nat} {k₀ : Nat} (ha₀ : ∀ n ∈ a₀, Ch n) (hb₀ : ∀ n ∈ b₀, Ch n) (hla₀ : a₀.length < 10) (hlb₀ : b₀.length < 10)
    (hP : ∀ σ', P (.ret (.int (lev2 (cut (a₀.drop k₀) (b₀.drop k₀)) (cut (b₀.drop k₀) (a₀.drop k₀))))) σ') :
    (c.in (fdOf (pst 13) qual doc pm code ct an) 70 L' fr).EX ((bodyOf (pst 13)).drop 3) (mk [("a", .w a₀), ("b", .w b₀), ("max_cost", .int 99), ("pre", .int k₀)] []) P := by
  have hA1 := hA.in (n := 1) (callEnv (fdOf (pst 13) qual doc pm code ct an) L' 70)
  refine EX_assign (EV_dropW (EV_local rfl) (EV_local rfl) (by (first | lia | omega))) ?_
  refine EX_assign (EV_dropW (EV_local rfl) (EV_local rfl) (by (first | lia | omega))) ?_
  have ha : ∀ n ∈ a₀.drop k₀, Ch n := fun n hn => ha₀ n (List.mem_of_mem_drop hn)
  have hb : ∀ n ∈ b₀.drop k₀, Ch n := fun n hn => hb₀ n (List.mem_of_mem_drop hn)
  have hla : (a₀.drop k₀).length < 10 := by simp; (first | lia | omega)
  have hlb : (b₀.drop k₀).length < 10 := by simp; (first | lia | omega)
  generalize a₀.drop k₀ = a at *
  generalize b₀.drop k₀ = b at *
  refine EX_assign EV_int ?_
  refine EX_while (fun n σ' => ∃ k : Nat, n = a.length - k ∧ pref a.reverse b.reverse = k + pref (a.reverse.drop k) (b.reverse.drop k) ∧ σ' = mk [("a", .w a), ("b", .w b), ("max_cost", .int 99), ("post", .int (-(k : Int)))] []) ?_ a.length
    (Le.mk (l := [("a", .w a), ("b", .w b), ("max_cost", .int 99), ("post", .int (-((0 : Nat) : Int)))]) ⟨rfl, rfl, rfl, rfl, trivial⟩) ⟨0, by (first | lia | omega), by simp, rfl⟩
  rintro n _ ⟨k, rfl, hk, rfl⟩
  have after : pref (a.reverse.drop k) (b.reverse.drop k) = 0 → (c.in (fdOf (pst 13) qual doc pm code ct an) 70 L' fr).EX ((bodyOf (pst 13)).drop 7) (mk [("a", .w a), ("b", .w b), ("max_cost", .int 99), ("post", .int (-(k : Int)))] []) P := fun h0 => by
    have e1 : cut a b = a.take (a.length - k) := by unfold cut; rw [hk, h0, Nat.add_zero]
    have e2 : cut b a = b.take (b.length - k) := by unfold cut; rw [pref_comm, hk, h0, Nat.add_zero]
    rw [e1, e2] at hP
    exact lev_p3 G hA ha hb hla hlb hP
  have emp : ∀ w : List Nat, (w.take (w.length - k)).isEmpty = (w.reverse.drop k).isEmpty := fun w => by rw [rev_take]; cases w.reverse.drop k <;> simp
  cases ea : a.reverse.drop k with
  | nil =>
    exact ⟨false, _, TV_and_f (TV_plain (EV_takeW (EV_local rfl) (EV_local rfl) EV_none (by (first | lia | omega))) (TT_eq (TT_W (by simp; (first | lia | omega))) (by rw [emp, ea]; rfl))), fun h => (by cases h), fun _ => after (by rw [ea]; rfl)⟩
  | cons x xs =>
    cases eb : b.reverse.drop k with
    | nil =>
      exact ⟨false, _, TV_and_t (TV_plain (EV_takeW (EV_local rfl) (EV_local rfl) EV_none (by (first | lia | omega))) (TT_eq (TT_W (by simp; (first | lia | omega))) (by rw [emp, ea]; rfl)))
        (TV_and_f (TV_plain (EV_takeW (EV_local rfl) (EV_local rfl) EV_none (by (first | lia | omega))) (TT_eq (TT_W (by simp; (first | lia | omega))) (by rw [emp, eb]; rfl)))), fun h => (by cases h), fun _ => after (by rw [ea, eb]; rfl)⟩
    | cons y ys =>
      obtain ⟨gx, lx⟩ := rev_get ea
      obtain ⟨gy, ly⟩ := rev_get eb
      have hx : Ch x := ha x (List.mem_of_getElem? gx)
      have hy : Ch y := hb y (List.mem_of_getElem? gy)
      have hst := pref_step ea eb
      refine ⟨_, _, TV_and_t (TV_plain (EV_takeW (EV_local rfl) (EV_local rfl) EV_none (by (first | lia | omega))) (TT_eq (TT_W (by simp; (first | lia | omega))) (by rw [emp, ea]; rfl)))
        (TV_and_t (TV_plain (EV_takeW (EV_local rfl) (EV_local rfl) EV_none (by (first | lia | omega))) (TT_eq (TT_W (by simp; (first | lia | omega))) (by rw [emp, eb]; rfl)))
        (TV_and1 (TV_cmp (EV_sub (EV_local rfl) (EV_bin (EV_local rfl) EV_int OP_sub) (OP_backW lx gx (by (first | lia | omega)))) (EV_sub (EV_local rfl) (EV_bin (EV_local rfl) EV_int OP_sub) (OP_backW ly gy (by (first | lia | omega)))) (OP_eqW (one_ch hx) (one_ch hy) hA1.units)))), fun h => ?_, fun h => ?_⟩
      · have exy : x = y := by simpa using h
        rw [if_pos exy] at hst
        refine EX_augSub rfl EV_int (EX_nil ⟨a.length - (k + 1), _, by (first | lia | omega), ⟨k + 1, rfl, by (first | lia | omega), rfl⟩, Le.mk ⟨rfl, rfl, rfl, ?_, trivial⟩⟩)
        show some (AV.int (-(k : Int) - 1)) = some (AV.int (-((k + 1 : Nat) : Int)))
        congr 3; (first | lia | omega)
      · have exy : ¬ x = y := by simpa using h
        rw [if_neg exy] at hst
        exact after hst
end

section
variable {c : Cx} {σ : AS} {mg mb : Str → Option Value}
theorem lev_ok (G : Gd c.S₀ mg mb) (hA : AOk c.A 2) {a b : List Nat} (ha : ∀ n ∈ a, Ch n) (hb : ∀ n ∈ b, Ch n) (hla : a.length < 10) (hlb : b.length < 10) :
    c.OPs (fun vs => call (.ref 70) vs) [.w a, .w b, .int 99] σ (.int (lev a b)) σ := by
  refine OP_fn (foot := []) (foot' := []) (others := σ.mem) K_lev G.toGb (G.fn 13 70 (by decide)) hA.room (List.Perm.refl _) rfl fun L' qual doc pm code ct an => ?_
  have hA1 := hA.in (n := 1) (callEnv (fdOf (pst 13) qual doc pm code ct an) L' 70)
  refine EX_if (TV_cmp (EV_local rfl) (EV_local rfl) (OP_eqW ha hb hA1.units)) (fun hv => ?_) (fun hv => EX_nil ?_)
  · have e : a = b := by simpa using hv
    refine EX_ret EV_int ⟨?_, List.Sublist.refl _⟩
    show AV.int 0 = AV.int (lev a b : Nat)
    rw [lev, if_pos e]; rfl
  have ne : ¬ a = b := by simpa using hv
  refine EX_assign EV_int ?_
  refine EX_while (fun n σ' => ∃ k : Nat, n = a.length - k ∧ pref a b = k + pref (a.drop k) (b.drop k) ∧ σ' = mk [("a", .w a), ("b", .w b), ("max_cost", .int 99), ("pre", .int k)] []) ?_ a.length
    (Le.mk (l := [("a", .w a), ("b", .w b), ("max_cost", .int 99), ("pre", .int 0)]) ⟨rfl, rfl, rfl, rfl, trivial⟩) ⟨0, by (first | lia | omega), by simp, rfl⟩
  rintro n _ ⟨k, rfl, hk, rfl⟩
  have leave : pref (a.drop k) (b.drop k) = 0 → k = pref a b := fun h => by (first | lia | omega)
  have after : k = pref a b → (c.in (fdOf (pst 13) qual doc pm code ct an) 70 L' ((c.env.locals, .ns σ.loc) :: (σ.mem ++ c.fr))).EX ((bodyOf (pst 13)).drop 3) (mk [("a", .w a), ("b", .w b), ("max_cost", .int 99), ("pre", .int k)] [])
      (fun af σ' => af.val = .int (lev a b) ∧ ([] : List (Addr × ACell)).Sublist σ'.mem) := fun hkp => by
    refine lev_p2 G hA ha hb hla hlb fun σ' => ⟨?_, List.nil_sublist _⟩
    show AV.int _ = AV.int _
    rw [lev, if_neg ne, ← hkp]
  cases ea : a.drop k with
  | nil =>
    exact ⟨false, _, TV_and_f (TV_plain (EV_dropW (EV_local rfl) (EV_local rfl) (by (first | lia | omega))) (TT_eq (TT_W (by simp; (first | lia | omega))) (by rw [ea]; rfl))), fun h => (by cases h), fun _ => after (leave (by rw [ea]; rfl))⟩
  | cons x xs =>
    cases eb : b.drop k with
    | nil =>
      exact ⟨false, _, TV_and_t (TV_plain (EV_dropW (EV_local rfl) (EV_local rfl) (by (first | lia | omega))) (TT_eq (TT_W (by simp; (first | lia | omega))) (by rw [ea]; rfl)))
        (TV_and_f (TV_plain (EV_dropW (EV_local rfl) (EV_local rfl) (by (first | lia | omega))) (TT_eq (TT_W (by simp; (first | lia | omega))) (by rw [eb]; rfl)))), fun h => (by cases h), fun _ => after (leave (by rw [ea, eb]; rfl))⟩
    | cons y ys =>
      obtain ⟨gx, lx⟩ := drop_get ea
      obtain ⟨gy, ly⟩ := drop_get eb
      have hx : Ch x := ha x (List.mem_of_getElem? gx)
      have hy : Ch y := hb y (List.mem_of_getElem? gy)
      have hst := pref_step ea eb
      refine ⟨_, _, TV_and_t (TV_plain (EV_dropW (EV_local rfl) (EV_local rfl) (by (first | lia | omega))) (TT_eq (TT_W (by simp; (first | lia | omega))) (by rw [ea]; rfl)))
        (TV_and_t (TV_plain (EV_dropW (EV_local rfl) (EV_local rfl) (by (first | lia | omega))) (TT_eq (TT_W (by simp; (first | lia | omega))) (by rw [eb]; rfl)))
        (TV_and1 (TV_cmp (EV_sub (EV_local rfl) (EV_local rfl) (OP_itemW (by (first | lia | omega)) (by rw [Int.toNat_natCast]; exact gx) (by (first | lia | omega)))) (EV_sub (EV_local rfl) (EV_local rfl) (OP_itemW (by (first | lia | omega)) (by rw [Int.toNat_natCast]; exact gy) (by (first | lia | omega)))) (OP_eqW (one_ch hx) (one_ch hy) hA1.units)))), fun h => ?_, fun h => ?_⟩
      · have exy : x = y := by simpa using h
        rw [if_pos exy] at hst
        refine EX_augAdd rfl EV_int (EX_nil ⟨a.length - (k + 1), _, by (first | lia | omega), ⟨k + 1, rfl, by (first | lia | omega), rfl⟩, Le.mk ⟨rfl, rfl, rfl, rfl, trivial⟩⟩)
      · have exy : ¬ x = y := by simpa using h
        rw [if_neg exy] at hst
        exact after (leave hst)
end
end Mine

end

noncomputable section
open PySem PySem.W PyProof.Rows PySem.Calls
set_option Elab.async false
set_option linter.unusedVariables false
set_option maxRecDepth 100000
namespace Mine

def priceStep (x n : Nat) (f : List Nat → Nat) : List Nat → Nat
  | [] => 2 * (n + 1)
  | y :: v => min (2 + f (y :: v)) (min (2 + priceStep x n f v) (subCost x y + f v))
def price : List Nat → List Nat → Nat
  | [] => fun v => 2 * v.length
  | x :: u => priceStep x u.length (price u)
theorem price_nil (v : List Nat) : price [] v = 2 * v.length := rfl
theorem price_nil' : ∀ u : List Nat, price u [] = 2 * u.length
  | [] => rfl
  | _ :: _ => rfl
theorem price_cons (x y : Nat) (u v : List Nat) : price (x :: u) (y :: v) = min (2 + price u (y :: v)) (min (2 + price (x :: u) v) (subCost x y + price u v)) := rfl

theorem K_price : FnOk 17 ["one", "two"] := ⟨rfl, fun _ _ _ _ _ _ => vals2 fun _ _ => rfl, by decide, by decide, by decide, rfl, rfl, rfl⟩

section
variable {c : Cx} {σ : AS} {mg mb : Str → Option Value}
theorem price_ok (G : Gd c.S₀ mg mb) (hA : AOk c.A 2) {a b : List Nat} (ha : ∀ n ∈ a, Ch n) (hb : ∀ n ∈ b, Ch n) (hla : a.length < 8) (hlb : b.length < 8) :
    c.OPs (fun vs => call (.ref 91) vs) [.w a, .w b] σ (.int (price a b)) σ := by
  refine OP_fn (foot := []) (foot' := []) (others := σ.mem) K_price G.toGb (G.fn 17 91 (by decide)) hA.room (List.Perm.refl _) rfl fun L' qual doc pm code ct an => ?_
  have hA1 := hA.in (n := 1) (callEnv (fdOf (pst 17) qual doc pm code ct an) L' 91)
  refine EX_assignP EP_dictM ?_
  rintro _ _ ⟨t, rfl, rfl⟩
  refine EX_for (J := fun k σ' => ∃ (cnt : Nat) (tab : Int → Option AV), cnt ≤ k * 10 ∧ (∀ i j : Nat, a.length < i + k → i ≤ a.length → j ≤ b.length → tab ((i * 9 + j : Nat) : Int) = some (.int (price (a.drop i) (b.drop j) : Nat))) ∧
      σ' = mk [("one", .w a), ("two", .w b), ("table", .raw (.ref t))] [(t, .dict cnt tab)])
    (EV_callT (EV_bl G rfl) (EVs_cons (EV_callB (EV_bl G rfl) (EVs_cons (EV_local rfl) EVs_nil) (OPs_lenStr (by rw [sOf_length]; omega))) (EVs_cons (EV_una EV_int OP_neg) (EVs_cons (EV_una EV_int OP_neg) EVs_nil))) (OPs_range3 (by decide) (by unfold Builtin.divisionGoesByPylong; simp only [Bool.and_eq_false_iff]; exact .inl (by decide +kernel))))
    (by rw [sOf_length]; exact down_ok (by omega)) hA1.h Own_name
    (Le.mk (l := [("one", .w a), ("two", .w b), ("table", .raw (.ref t))]) (m := [(t, .dict 0 fun _ => none)]) ⟨rfl, rfl, rfl, trivial⟩) ⟨0, _, by omega, fun i j h1 h2 => by omega, rfl⟩ ?_ ?_
  · rintro fr' k d _ ⟨cnt, tab, hcnt, htab, rfl⟩ hd
    rw [sOf_length] at hd
    obtain ⟨hk, rfl⟩ := down_item hd
    refine ⟨_, Asg_name, ?_⟩
    refine EX_for (J := fun l σ' => ∃ (cnt : Nat) (tab : Int → Option AV), cnt ≤ k * 10 + l ∧ (∀ i j : Nat, (a.length < i + k ∨ (i = a.length - k ∧ b.length < j + l)) → i ≤ a.length → j ≤ b.length → tab ((i * 9 + j : Nat) : Int) = some (.int (price (a.drop i) (b.drop j) : Nat))) ∧
        σ' = mk [("one", .w a), ("two", .w b), ("table", .raw (.ref t)), ("i", .int (a.length - k : Nat))] [(t, .dict cnt tab)])
      (EV_callT (EV_bl G rfl) (EVs_cons (EV_callB (EV_bl G rfl) (EVs_cons (EV_local rfl) EVs_nil) (OPs_lenStr (by rw [sOf_length]; omega))) (EVs_cons (EV_una EV_int OP_neg) (EVs_cons (EV_una EV_int OP_neg) EVs_nil))) (OPs_range3 (by decide) (by unfold Builtin.divisionGoesByPylong; simp only [Bool.and_eq_false_iff]; exact .inl (by decide +kernel))))
      (by rw [sOf_length]; exact down_ok (by omega)) hA1.h Own_name
      (Le.mk (l := [("one", .w a), ("two", .w b), ("table", .raw (.ref t)), ("i", .int (a.length - k : Nat))]) (m := [(t, .dict cnt tab)]) ⟨rfl, rfl, rfl, rfl, trivial⟩) ⟨cnt, tab, by omega, fun i j h1 h2 h3 => htab i j (by omega) h2 h3, rfl⟩ ?_ ?_
    · rintro fr'' l d _ ⟨cnt, tab, hcnt, htab, rfl⟩ hd
      rw [sOf_length] at hd
      obtain ⟨hl, rfl⟩ := down_item hd
      refine ⟨_, Asg_name, ?_⟩
      refine EX_assign (EV_bin EV_int (EV_bin (EV_bin (EV_bin (EV_callB (EV_bl G rfl) (EVs_cons (EV_local rfl) EVs_nil) (OPs_lenStr (by rw [sOf_length]; omega))) (EV_local rfl) OP_sub) (EV_callB (EV_bl G rfl) (EVs_cons (EV_local rfl) EVs_nil) (OPs_lenStr (by rw [sOf_length]; omega))) OP_add) (EV_local rfl) OP_sub) (OP_mul (IntMulOk.of_left (by decide)))) ?_
      rw [sOf_length, sOf_length]
      -- the last row: what is stored
      have finish : ∀ (least : Nat) (τ : AS), least = price (a.drop (a.length - k)) (b.drop (b.length - l)) → Le (mk [("one", .w a), ("two", .w b), ("table", .raw (.ref t)), ("i", .int (a.length - k : Nat)), ("j", .int (b.length - l : Nat)), ("least", .int least)] [(t, .dict cnt tab)]) τ →
          (((c.in (fdOf (pst 17) qual doc pm code ct an) 91 L' ((c.env.locals, .ns σ.loc) :: (σ.mem ++ c.fr))).on fr').on fr'').EX ((match ((match (bodyOf (pst 17)).getD 1 (.Pass default) with | .For _ _ body _ _ => body | _ => []).getD 0 (.Pass default)) with | .For _ _ body _ _ => body | _ => []).drop 2) τ
            ((((c.in (fdOf (pst 17) qual doc pm code ct an) 91 L' ((c.env.locals, .ns σ.loc) :: (σ.mem ++ c.fr))).on fr')).Turn [] ((c.in (fdOf (pst 17) qual doc pm code ct an) 91 L' ((c.env.locals, .ns σ.loc) :: (σ.mem ++ c.fr))).Turn ((bodyOf (pst 17)).drop 2) (fun af σ' => af.val = .int (price a b) ∧ ([] : List (Addr × ACell)).Sublist σ'.mem) fun τ => ∃ τ', (∃ (cnt : Nat) (tab : Int → Option AV), cnt ≤ (k + 1) * 10 ∧ (∀ i j : Nat, a.length < i + (k + 1) → i ≤ a.length → j ≤ b.length → tab ((i * 9 + j : Nat) : Int) = some (.int (price (a.drop i) (b.drop j) : Nat))) ∧
                τ' = mk [("one", .w a), ("two", .w b), ("table", .raw (.ref t))] [(t, .dict cnt tab)]) ∧ Le τ' τ) fun τ => ∃ τ', (∃ (cnt : Nat) (tab : Int → Option AV), cnt ≤ k * 10 + (l + 1) ∧ (∀ i j : Nat, (a.length < i + k ∨ (i = a.length - k ∧ b.length < j + (l + 1))) → i ≤ a.length → j ≤ b.length → tab ((i * 9 + j : Nat) : Int) = some (.int (price (a.drop i) (b.drop j) : Nat))) ∧
                τ' = mk [("one", .w a), ("two", .w b), ("table", .raw (.ref t)), ("i", .int (a.length - k : Nat))] [(t, .dict cnt tab)]) ∧ Le τ' τ) := fun least τ hleast hle => by
        refine EX_le hle ?_
        refine EX_setDict (EV_local rfl) (EV_local rfl) (EV_bin (EV_bin (EV_local rfl) EV_int (OP_mul (IntMulOk.of_right (by decide)))) (EV_local rfl) OP_add) (by omega) .head (EX_nil ?_)
        refine ⟨_, ⟨cnt + 1, _, by omega, fun i j h1 h2 h3 => ?_, rfl⟩, Le.mk ⟨rfl, rfl, rfl, rfl, trivial⟩⟩
        by_cases he : i = a.length - k ∧ j = b.length - l
        · obtain ⟨rfl, rfl⟩ := he
          rw [if_pos (by omega), hleast]
        · rw [if_neg (by omega)]
          exact htab i j (by omega) h2 h3
      refine EX_if (TV_and2 (TV_cmp (EV_local rfl) (EV_callB (EV_bl G rfl) (EVs_cons (EV_local rfl) EVs_nil) (OPs_lenStr (by rw [sOf_length]; omega))) OP_lt) (fun _ => TV_cmp (EV_local rfl) (EV_callB (EV_bl G rfl) (EVs_cons (EV_local rfl) EVs_nil) (OPs_lenStr (by rw [sOf_length]; omega))) OP_lt)) (fun hv => ?_) (fun hv => EX_nil ?_)
      · rw [Bool.and_eq_true, decide_eq_true_eq, decide_eq_true_eq, sOf_length, sOf_length] at hv
        have hi : a.length - k < a.length := by omega
        have hj : b.length - l < b.length := by omega
        obtain ⟨x, hx⟩ : ∃ x, a[a.length - k]? = some x := ⟨_, List.getElem?_eq_getElem hi⟩
        obtain ⟨y, hy⟩ : ∃ y, b[b.length - l]? = some y := ⟨_, List.getElem?_eq_getElem hj⟩
        have hCx : Ch x := ha x (List.mem_of_getElem? hx)
        have hCy : Ch y := hb y (List.mem_of_getElem? hy)
        have dx : a.drop (a.length - k) = x :: a.drop (a.length - k + 1) := by
          rw [List.drop_eq_getElem_cons hi]; congr 1
          rw [List.getElem?_eq_getElem hi] at hx; exact Option.some.inj hx
        have dy : b.drop (b.length - l) = y :: b.drop (b.length - l + 1) := by
          rw [List.drop_eq_getElem_cons hj]; congr 1
          rw [List.getElem?_eq_getElem hj] at hy; exact Option.some.inj hy
        have t1 : tab ((((a.length - k : Nat) : Int) + 1) * 9 + ((b.length - l : Nat) : Int) + 1) = some (.int (price (a.drop (a.length - k + 1)) (b.drop (b.length - l + 1)) : Nat)) := by
          rw [show (((a.length - k : Nat) : Int) + 1) * 9 + ((b.length - l : Nat) : Int) + 1 = (((a.length - k + 1) * 9 + (b.length - l + 1) : Nat) : Int) from by omega]
          exact htab _ _ (by omega) (by omega) (by omega)
        have t2 : tab ((((a.length - k : Nat) : Int) + 1) * 9 + ((b.length - l : Nat) : Int)) = some (.int (price (a.drop (a.length - k + 1)) (b.drop (b.length - l)) : Nat)) := by
          rw [show (((a.length - k : Nat) : Int) + 1) * 9 + ((b.length - l : Nat) : Int) = (((a.length - k + 1) * 9 + (b.length - l) : Nat) : Int) from by omega]
          exact htab _ _ (by omega) (by omega) (by omega)
        have t3 : tab (((a.length - k : Nat) : Int) * 9 + ((b.length - l : Nat) : Int) + 1) = some (.int (price (a.drop (a.length - k)) (b.drop (b.length - l + 1)) : Nat)) := by
          rw [show ((a.length - k : Nat) : Int) * 9 + ((b.length - l : Nat) : Int) + 1 = (((a.length - k) * 9 + (b.length - l + 1) : Nat) : Int) from by omega]
          exact htab _ _ (by omega) (by omega) (by omega)
        refine EX_assign (EV_bin (EV_fn (i := 16) G (by decide) (EV_gl G rfl) (EVs_cons (EV_sub (EV_local rfl) (EV_local rfl) (OP_itemW (by omega) (by rw [Int.toNat_natCast]; exact hx) (by omega))) (EVs_cons (EV_sub (EV_local rfl) (EV_local rfl) (OP_itemW (by omega) (by rw [Int.toNat_natCast]; exact hy) (by omega))) EVs_nil)) (by exact cost_ok (c := ((c.in _ _ _ _).on _).on _) G hA1 hCx hCy))
          (EV_sub (EV_local rfl) (EV_bin (EV_bin (EV_bin (EV_bin (EV_local rfl) EV_int OP_add) EV_int (OP_mul (IntMulOk.of_right (by decide)))) (EV_local rfl) OP_add) EV_int OP_add) (OP_itemDict (.head _) t1)) OP_add) ?_
        refine EX_assign (EV_callB (EV_bl G rfl) (EVs_cons (EV_bin EV_int (EV_sub (EV_local rfl) (EV_bin (EV_bin (EV_bin (EV_local rfl) EV_int OP_add) EV_int (OP_mul (IntMulOk.of_right (by decide)))) (EV_local rfl) OP_add) (OP_itemDict (.head _) t2)) OP_add)
          (EVs_cons (EV_bin EV_int (EV_sub (EV_local rfl) (EV_bin (EV_bin (EV_bin (EV_local rfl) EV_int (OP_mul (IntMulOk.of_right (by decide)))) (EV_local rfl) OP_add) EV_int OP_add) (OP_itemDict (.head _) t3)) OP_add)
          (EVs_cons (EV_local rfl) EVs_nil))) (OPs_min3 hA1.h)) (EX_nil ?_)
        refine finish (price (a.drop (a.length - k)) (b.drop (b.length - l))) _ rfl (Le.mk ⟨rfl, rfl, rfl, rfl, rfl, ?_, trivial⟩)
        show some (AV.int _) = some (AV.int _)
        rw [dx, dy, price_cons]
        rw [← dx, ← dy]
        congr 3; omega
      · refine finish (2 * (a.length - (a.length - k) + b.length - (b.length - l))) _ ?_ (Le.mk ⟨rfl, rfl, rfl, rfl, rfl, ?_, trivial⟩)
        · have hv' : ¬ (a.length - k < a.length ∧ b.length - l < b.length) := fun ⟨h1, h2⟩ => by
            rw [Bool.and_eq_false_iff, decide_eq_false_iff_not, decide_eq_false_iff_not, sOf_length, sOf_length] at hv
            omega
          by_cases h1 : a.length - k < a.length
          · have : b.drop (b.length - l) = [] := List.drop_of_length_le (by omega)
            rw [this, price_nil']; simp; omega
          · have : a.drop (a.length - k) = [] := List.drop_of_length_le (by omega)
            rw [this, price_nil]; simp; omega
        · show some (AV.int _) = some (AV.int _)
          congr 3; omega
    · rintro _ ⟨cnt, tab, hcnt, htab, rfl⟩
      rw [sOf_length, down_length] at hcnt htab
      refine EX_nil ⟨_, ⟨cnt, tab, by omega, fun i j h1 h2 h3 => htab i j (by omega) h2 h3, rfl⟩, Le.mk ⟨rfl, rfl, rfl, trivial⟩⟩
  · rintro _ ⟨cnt, tab, hcnt, htab, rfl⟩
    rw [sOf_length, down_length] at htab
    refine EX_ret (EV_sub (EV_local rfl) EV_int (OP_itemDict (.head _) (htab 0 0 (by omega) (by omega) (by omega)))) ⟨?_, List.nil_sublist _⟩
    show AV.int _ = AV.int _
    simp
end
end Mine

end

noncomputable section
open PySem PySem.W PyProof.Rows PySem.Calls
set_option Elab.async false
set_option linter.unusedVariables false
set_option maxRecDepth 100000
namespace Mine

/-- a sort's questions, answered -/
def kgo {α : Type} (lt : Nat → Nat → Bool) : KasT α → α
  | .ret a => a
  | .ask i j k => kgo lt (k (lt i j))
/-- it asks of the first n alone, and its answer holds these alone -/
def kin (n : Nat) : KasT (Array Nat) → Bool
  | .ret a => a.toList.all (· < n) && a.size == n
  | .ask i j k => decide (i < n) && decide (j < n) && kin n (k true) && kin n (k false)
theorem kin_go {n : Nat} {lt : Nat → Nat → Bool} : ∀ {t : KasT (Array Nat)}, kin n t = true → (∀ i ∈ (kgo lt t).toList, i < n) ∧ (kgo lt t).size = n
  | .ret a, h => by
    simp only [kin, Bool.and_eq_true, List.all_eq_true, decide_eq_true_eq, beq_iff_eq] at h
    exact h
  | .ask i j k, h => by
    simp only [kin, Bool.and_eq_true] at h
    show (∀ m ∈ (kgo lt (k (lt i j))).toList, m < n) ∧ (kgo lt (k (lt i j))).size = n
    cases lt i j with
    | true => exact kin_go h.1.2
    | false => exact kin_go h.2
theorem kasWp_go {n : Nat} {lt : Nat → Nat → Bool} {cmp : Nat → Nat → (Bool → Shared → Prop) → Shared → Prop} {Q : Array Nat → Shared → Prop} {s : Shared} (hc : ∀ i j C, i < n → j < n → C (lt i j) s → cmp i j C s) :
    ∀ {t : KasT (Array Nat)}, kin n t = true → Q (kgo lt t) s → t.kasWp cmp Q s
  | .ret a, _, h => h
  | .ask i j k, hk, h => by
    simp only [kin, Bool.and_eq_true, decide_eq_true_eq] at hk
    refine hc i j _ hk.1.1.1 hk.1.1.2 ?_
    have h' : Q (kgo lt (k (lt i j))) s := h
    cases hl : lt i j with
    | true => rw [hl] at h'; exact kasWp_go hc hk.1.2 h'
    | false => rw [hl] at h'; exact kasWp_go hc hk.2 h'
theorem kin_2 : kin 2 (kas_sort 2) = true := by decide +kernel
theorem kin_3 : kin 3 (kas_sort 3) = true := by decide +kernel
theorem kin_4 : kin 4 (kas_sort 4) = true := by decide +kernel

/-- sorted, as the machine's own questions do it -/
def sortP (l : List (List Int)) : List (List Int) := (kgo (fun i j => ltInts (l.getD i []) (l.getD j [])) (kas_sort l.length)).toList.map fun i => l.getD i []

/-- all that the heap holds but one place -/
def allBut (h : Heap) (L : Addr) : List (Addr × Obj) := (List.range h.objs.size).filterMap fun b => if b = L then none else (h.get? b).map fun o => (b, o)
theorem mem_allBut {h : Heap} {L b : Addr} {o : Obj} : (b, o) ∈ allBut h L ↔ h.get? b = some o ∧ b ≠ L := by
  unfold allBut
  rw [List.mem_filterMap]
  constructor
  · rintro ⟨c, _, e⟩
    split at e
    · cases e
    · rename_i hne
      obtain ⟨o', h1, h2⟩ := Option.map_eq_some_iff.mp e
      cases h2
      exact ⟨h1, hne⟩
  · rintro ⟨e, hne⟩
    exact ⟨b, List.mem_range.mpr (Heap.lt_size e), by rw [if_neg hne, e]; rfl⟩

theorem St.same {S₀ : Shared} {L : Addr} {σ : AS} {s : Shared} {h' : Heap} {mc : Str → Option Value} (x : St S₀ L σ s) (k : ∀ b o, b ≠ L → s.heap.get? b = some o → h'.get? b = some o) (hn : h'.Ns L mc) (hr : NsRel (frzS L σ s) mc σ.loc) (tk : Nat) :
    St S₀ L σ { s with heap := h', toks := tk } ∧ Sub (frzS L σ s) (frzS L σ { s with heap := h', toks := tk }) := by
  have y : Sub (frzS L σ s) (frzS L σ { s with heap := h', toks := tk }) := frz_sub fun b o e n => ⟨k b o (fun q => n (q ▸ List.mem_cons_self)) e, n⟩
  refine ⟨⟨by obtain ⟨h, t, rfl⟩ := x.rest; exact ⟨h', tk, rfl⟩, x.keep.trans y, x.nodup, ⟨mc, hn, hr.mono y⟩, fun p hp => ?_⟩, y⟩
  have q := x.mem p hp
  obtain ⟨o, ho⟩ := q.live
  have hne : p.1 ≠ L := fun e => (List.nodup_cons.mp x.nodup).1 (e ▸ List.mem_map_of_mem (f := Prod.fst) hp)
  exact q.same y ((k p.1 o hne ho).trans ho.symm)

theorem katTups_of {h : Heap} : ∀ {vs : List Value} {l : List (List Int)}, VRels h vs (l.map AV.ints) → (∀ x ∈ l, x.length = 2) → ∃ fs, KatTups h vs fs ∧ fs.length = l.length ∧ ∀ v ∈ fs, ∃ i t, v = .int i t
  | [], [], _, _ => ⟨[], .nil, rfl, fun v hv => nomatch hv⟩
  | v :: vs, x :: l, ⟨r, rs⟩, hl => by
    obtain ⟨fs, hk, hlen, hf⟩ := katTups_of rs fun y hy => hl y (.tail _ hy)
    obtain ⟨as, r⟩ := r
    have hx := hl x (.head _)
    obtain ⟨p, q, rfl⟩ := len2 hx
    cases r with
    | @tuple a o ws n _ as h1 h2 h3 h4 =>
      have hi := intsAre_of (xs := [p, q]) h4
      obtain ⟨t, u, hw⟩ := IntsAre.two hi
      refine ⟨.int p t :: fs, .cons h1 h2 h3 ?_ hk, by simp [hlen], fun v hv => ?_⟩
      · rw [← Array.getElem?_toList, hw]; rfl
      · rcases List.mem_cons.mp hv with rfl | hv
        · exact ⟨p, t, rfl⟩
        · exact hf v hv
  | [], _ :: _, h, _ => h.elim
  | _ :: _, [], h, _ => h.elim

section
variable {c : Cx} {σ : AS}
theorem keyLt_pairs {A : Around} {s : Shared} {v u : Value} {x y : List Int} {C : Bool → Shared → Prop} {E : Value → Shared → Prop} (rv : VRel s.heap v (.ints x)) (ru : VRel s.heap u (.ints y)) (hx : x.length = 2) (hy : y.length = 2) (h : C (ltInts x y) s) :
    wpAny (model c.prog c.w) A (keyLt' (tuples' true) v u) C E s := by
  obtain ⟨as, rv⟩ := rv
  obtain ⟨bs, ru⟩ := ru
  obtain ⟨p, q, rfl⟩ := len2 hx
  obtain ⟨p', q', rfl⟩ := len2 hy
  cases rv with
  | @tuple a o ws n _ as h1 h2 h3 h4 =>
    cases ru with
    | @tuple b o' ws' n' _ bs k1 k2 k3 k4 =>
      have hi := intsAre_of (xs := [p, q]) h4
      have hi' := intsAre_of (xs := [p', q']) k4
      refine kat_lt h1 h3 k1 k3 ?_
      obtain ⟨t, u, hw⟩ := IntsAre.two hi
      obtain ⟨t', u', hw'⟩ := IntsAre.two hi'
      rw [hw, hw']
      have hs1 : ws.size = 2 := by rw [← Array.length_toList, hw]; rfl
      have hs2 : ws'.size = 2 := by rw [← Array.length_toList, hw']; rfl
      refine kat_cons (wpAny_eqBool_int ?_)
      by_cases hp : p = p'
      · rw [show (p == p') = true from by simpa using hp]
        refine kat_yes (kat_cons (wpAny_eqBool_int ?_))
        by_cases hq : q = q'
        · rw [show (q == q') = true from by simpa using hq]
          refine kat_yes (kat_nil ?_)
          rw [hs1, hs2]
          simpa [ltInts, hp, hq] using h
        · rw [show (q == q') = false from by simpa using hq]
          refine kat_no ?_
          show wpAny _ _ (oneLt' false _ _) _ _ _
          refine kat_one _ _ (lt_int ?_)
          show C _ _
          simpa [ltInts, hp, hq] using h
      · rw [show (p == p') = false from by simpa using hp]
        refine kat_no ?_
        show wpAny _ _ (oneLt' true _ _) _ _ _
        refine oneLt_int ?_
        simpa [ltInts, hp] using h

theorem vrels_map {g : Heap} {vs : List Value} {l : List (List Int)} (r : VRels g vs (l.map AV.ints)) : ∀ {p : List Nat}, (∀ i ∈ p, i < l.length) → VRels g (p.map fun i => vs.getD i Value.none) ((p.map fun i => l.getD i []).map AV.ints)
  | [], _ => trivial
  | i :: p, h => by
    refine ⟨?_, vrels_map r fun j hj => h j (.tail _ hj)⟩
    obtain ⟨v, e, rv⟩ := r.get (i := i) (map_get (h i (.head _)))
    show VRel g (vs.getD i Value.none) (AV.ints (l.getD i []))
    have e' : vs.getD i Value.none = v := by rw [List.getD_eq_getElem?_getD, e]; rfl
    rw [e']
    exact rv

theorem OPs_sorted {a : Addr} {l : List (List Int)} (hm : (a, .list (l.map AV.ints)) ∈ σ.mem) (hl : ∀ x ∈ l, x.length = 2) (h2 : 2 ≤ l.length) (h4 : l.length ≤ 4) :
    c.OPs (fun vs => call (.builtin "sorted") vs) [.raw (.ref a)] σ (.dat (.list ((sortP l).map fun x => .tuple (x.map .int)))) σ := fun E Q s vs x r h => by
  replace r := VRels.one r
  obtain ⟨v, rfl, r⟩ := r
  obtain rfl : v = .ref a := r
  obtain ⟨vs, n, e, rvs⟩ := cell_at x hm
  have hlen := rvs.length
  rw [List.length_map] at hlen
  obtain ⟨mc, hns, hrel⟩ := x.ns
  have F0 : Fr {} c.env.locals s.heap mc := ⟨hns, fun b o e => by simp [Heap.get?] at e, Nat.zero_le _⟩
  have N0 : News {} c.env.locals s.heap (allBut s.heap c.env.locals) := fun p hp => by
    obtain ⟨b, o⟩ := p
    obtain ⟨h1, h2⟩ := mem_allBut.mp hp
    exact ⟨h1, h2, by simp [Heap.get?]⟩
  have hk : kin l.length (kas_sort l.length) = true := by
    obtain h | h | h : l.length = 2 ∨ l.length = 3 ∨ l.length = 4 := by (first | lia | omega)
    · rw [h]; exact kin_2
    · rw [h]; exact kin_3
    · rw [h]; exact kin_4
  refine kat_sorted F0 N0 (PySem.IsL.isList (n := n) e) (by (first | lia | omega)) (by (first | lia | omega)) fun D e1 h' F' N' hlt => ?_
  have sub1 : ∀ b o, b ≠ c.env.locals → s.heap.get? b = some o → h'.get? b = some o := fun b o hb eb => (N' (b, o) (.tail _ (mem_allBut.mpr ⟨eb, hb⟩))).1
  have hg : ∀ b o, (c.fz σ s).get? b = some o → h'.get? b = some o := fun b o eb => sub1 b o (fun q => (frz_get.mp eb).2 (q ▸ List.mem_cons_self)) (frz_get.mp eb).1
  have rvs' : VRels h' vs (l.map AV.ints) := rvs.mono hg
  obtain ⟨fs, hkt, hfl, hft⟩ := katTups_of rvs' hl
  refine kat_kind hkt (by (first | lia | omega)) (T := .type "int") (fun v hv => by obtain ⟨i, t, rfl⟩ := hft v hv; exact Looks.of_pure rfl) (by decide) ?_
  show (kas_sort vs.length).kasWp _ _ _
  rw [hlen]
  refine kasWp_go (lt := fun i j => ltInts (l.getD i []) (l.getD j [])) (fun i j C hi hj hC => ?_) hk ?_
  · show wpAny _ _ (keyLt' (tuples' true) _ _) _ _ _
    obtain ⟨v, ev, rv⟩ := rvs'.get (i := i) (map_get hi)
    obtain ⟨u, eu, ru⟩ := rvs'.get (i := j) (map_get hj)
    rw [List.getD_eq_getElem?_getD, ev, List.getD_eq_getElem?_getD, eu]
    have gl : ∀ i, i < l.length → (l.getD i []).length = 2 := fun i hi => hl _ (by rw [List.getD_eq_getElem?_getD, List.getElem?_eq_getElem hi]; exact List.getElem_mem hi)
    exact keyLt_pairs (c := c) rv ru (gl i hi) (gl j hj) hC
  · refine KasFin.intro F' N' (UpdF.head fun p hp => Nat.ne_of_lt (hlt p hp)) fun h'' c'' F'' N'' => ?_
    have sub2 : ∀ b o, b ≠ c.env.locals → s.heap.get? b = some o → h''.get? b = some o := fun b o hb eb => (N'' (b, o) (.tail _ (mem_allBut.mpr ⟨eb, hb⟩))).1
    obtain ⟨y, k⟩ := Mine.St.same x sub2 F''.ns hrel s.toks
    have hD : h''.get? D = some (listOf _ c'') := (N'' _ (.head _)).1
    have hDn : D ∉ dom c.env.locals (c.all σ) := fun hd => by
      obtain ⟨o, ho⟩ := x.live D hd
      by_cases hq : D = c.env.locals
      · exact (N'' _ (.head _)).2.1 hq
      · exact absurd (hlt (D, o) (mem_allBut.mpr ⟨ho, hq⟩)) (Nat.lt_irrefl _)
    refine h _ _ y k ?_
    have hperm := kin_go (lt := fun i j => ltInts (l.getD i []) (l.getD j [])) hk
    have rr := (vrels_map rvs hperm.1).mono k
    obtain ⟨as, ra⟩ := VRels.reads (ds := (sortP l).map fun x => .tuple (x.map .int)) (by rw [List.map_map]; exact rr)
    exact ⟨_, .list (frz_get.mpr ⟨hD, hDn⟩) rfl rfl (by simpa using ra)⟩
end
end Mine

end

noncomputable section
set_option linter.unusedVariables false
namespace Mine

theorem getD_lt {h : List (List Int)} {i : Nat} (hi : i < h.length) : h.getD i [] = h[i] := by simp [hi]
theorem swap_perm {h : List (List Int)} {i j : Nat} {x : List Int} (hi : i < h.length) (hj : j < h.length) (hne : i ≠ j) : ((h.set i (h.getD j [])).set j x).Perm (h.set i x) := by
  have h1 : i < (h.set i x).length := by simpa using hi
  have h2 : j < (h.set i x).length := by simpa using hj
  have := List.set_set_perm (as := h.set i x) h1 h2
  have e1 : (h.set i x)[j] = h.getD j [] := by rw [getD_lt hj, List.getElem_set_ne hne]
  have e2 : (h.set i x)[i] = x := by simp
  rw [e1, e2, List.set_set] at this
  exact this
theorem set_self {h : List (List Int)} {i : Nat} : h.set i (h.getD i []) = h := by
  by_cases hi : i < h.length
  · rw [getD_lt hi]; simp
  · rw [List.set_eq_of_length_le (by (first | lia | omega))]

theorem sd_perm (new : List Int) (start : Nat) : ∀ f pos h, pos < h.length → (sd new start f pos h).Perm (h.set pos new)
  | 0, pos, h, _ => .refl _
  | f + 1, pos, h, hp => by
    unfold sd
    split
    · rename_i hlt
      split
      · refine (sd_perm new start f ((pos - 1) / 2) _ (by simp; (first | lia | omega))).trans ?_
        exact swap_perm hp (by (first | lia | omega)) (by (first | lia | omega))
      · exact .refl _
    · exact .refl _
theorem siftdown_perm {h : List (List Int)} {start pos : Nat} (hp : pos < h.length) : (siftdown h start pos).Perm h := by
  have := sd_perm (h.getD pos []) start pos pos h hp
  rwa [set_self] at this
theorem hpush_perm (h : List (List Int)) (x : List Int) : (hpush h x).Perm (x :: h) := by
  refine (siftdown_perm (by simp)).trans ?_
  exact List.perm_append_comm (l₁ := h) (l₂ := [x])
theorem su_perm (n : Nat) : ∀ f pos h, pos < h.length → h.length = n → ∀ x, ((su n f pos h).1.set (su n f pos h).2 x).Perm (h.set pos x) ∧ (su n f pos h).2 < n
  | 0, pos, h, hp, hn, x => ⟨.refl _, by simp [su]; (first | lia | omega)⟩
  | f + 1, pos, h, hp, hn, x => by
    unfold su
    split
    · split
      · rename_i h1 h2
        obtain ⟨a, b⟩ := su_perm n f (2 * pos + 2) (h.set pos (h.getD (2 * pos + 2) [])) (by simp; (first | lia | omega)) (by simpa using hn) x
        exact ⟨a.trans (swap_perm hp (by (first | lia | omega)) (by (first | lia | omega))), b⟩
      · rename_i h1 h2
        obtain ⟨a, b⟩ := su_perm n f (2 * pos + 1) (h.set pos (h.getD (2 * pos + 1) [])) (by simp; (first | lia | omega)) (by simpa using hn) x
        exact ⟨a.trans (swap_perm hp (by (first | lia | omega)) (by (first | lia | omega))), b⟩
    · exact ⟨.refl _, by simp; (first | lia | omega)⟩
theorem siftup_perm {h : List (List Int)} {pos : Nat} (hp : pos < h.length) : (siftup h pos).Perm h := by
  obtain ⟨a, b⟩ := su_perm h.length h.length pos h hp rfl (h.getD pos [])
  rw [set_self] at a
  unfold siftup
  refine (siftdown_perm ?_).trans a
  rw [List.length_set, su_length]; exact b
theorem hpop_perm {h : List (List Int)} (hp : 0 < h.length) : ((hpop h).1 :: (hpop h).2).Perm h := by
  unfold hpop
  split
  · rename_i e
    match h, e with
    | [x], _ => exact .refl _
  · rename_i e
    match h, hp with
    | x :: t, _ =>
      have ht : t ≠ [] := fun q => by subst q; simp at e
      have e1 : (x :: t).dropLast = x :: t.dropLast := by
        cases t with
        | nil => exact absurd rfl ht
        | cons y t => rfl
      have e2 : (x :: t).getD ((x :: t).length - 1) [] = t.getLast ht := by
        rw [getD_lt (by simp), List.getLast_eq_getElem]
        simp only [List.length_cons, Nat.add_sub_cancel]
        have : t.length - 1 + 1 = t.length := by have := List.length_pos_iff.mpr ht; (first | lia | omega)
        rw [List.getElem_cons]
        simp [show ¬ t.length = 0 from by have := List.length_pos_iff.mpr ht; (first | lia | omega)]
      rw [e1, e2]
      show (x :: siftup (t.getLast ht :: t.dropLast) 0).Perm (x :: t)
      refine List.Perm.cons _ ((siftup_perm (by simp)).trans ?_)
      have := List.dropLast_concat_getLast ht
      exact (List.perm_append_comm (l₁ := [t.getLast ht]) (l₂ := t.dropLast)).trans (by rw [this])
end Mine

end

noncomputable section
open PySem PySem.W PyProof.Rows PySem.Calls
set_option Elab.async false
set_option linter.unusedVariables false
set_option maxRecDepth 100000
namespace Mine

theorem AOk.less {A : Around} {n k : Nat} (x : AOk A n) (h : k ≤ n) : AOk A k := ⟨x.h, by have := x.d; (first | lia | omega), by have := x.u; (first | lia | omega)⟩

def tieOf (f : Int → Int → Int) (t h k : Int) : List Int := [f (min h k) (max h k), t * h, t * k]
def pushAll (f : Int → Int → Int) (t here : Int) (inside : List Int) : List Nat → List (List Int) → List (List Int)
  | [], hp => hp
  | k :: ks, hp => pushAll f t here inside ks (if inside.contains (k : Int) then hp else hpush hp (tieOf f t here k))
def popU (t : Int) (inside : List Int) : Nat → List (List Int) → Option (List Int × List (List Int))
  | 0, _ => none
  | n + 1, hp => if hp.isEmpty then none else if inside.contains (t * (hpop hp).1.getD 2 0) then popU t inside n (hpop hp).2 else some (hpop hp)
def pairOf (t : Int) (e : List Int) : List Int := [min (t * e.getD 1 0) (t * e.getD 2 0), max (t * e.getD 1 0) (t * e.getD 2 0)]
def netGo (f : Int → Int → Int) (count : Nat) (t : Int) : Nat → List Int → List (List Int) → List (List Int) → Option (List (List Int))
  | 0, _, _, _ => none
  | n + 1, inside, hp, net => if inside.length < count then
      match popU t inside (pushAll f t (inside.getLastD 0) inside (List.range count) hp).length (pushAll f t (inside.getLastD 0) inside (List.range count) hp) with
      | none => none
      | some (e, hp') => netGo f count t n (inside ++ [t * e.getD 2 0]) hp' (net ++ [pairOf t e])
    else some net
def netM (f : Int → Int → Int) (count : Nat) (start t : Int) : Option (List (List Int)) := netGo f count t (count + 1) [start] [] []

/-- a tie as the heap holds it -/
def Tie (count : Nat) (t : Int) (e : List Int) : Prop := ∃ w h k : Int, e = [w, t * h, t * k] ∧ 0 ≤ h ∧ h < count ∧ 0 ≤ k ∧ k < count
def FarOk (m : Int → Option AV) (f : Int → Int → Int) (count : Nat) : Prop := ∀ i j : Nat, i < j → j < count → m ((i * 5 + j : Nat) : Int) = some (.int (f i j))

theorem K_net : FnOk 18 ["far", "count", "start", "turn"] := ⟨rfl, fun _ _ _ _ _ _ => vals4 fun _ _ _ _ => rfl, by decide, by decide, by decide, rfl, rfl, rfl⟩

def intsA (l : List Int) : List AV := l.map AV.int
theorem canLay_ints : ∀ l : List Int, PyData.canLayAll0 (l.map .int) = true
  | [] => rfl
  | _ :: l => by rw [List.map_cons, PyData.canLayAll0, canLay_ints l]; rfl
theorem depth_ints : ∀ l : List Int, PyData.depthAll (l.map .int) = 0
  | [] => rfl
  | _ :: l => by rw [List.map_cons, PyData.depthAll, depth_ints l]; rfl
theorem anyI (k : Int) : ∀ l : List Int, ((l.map PyData.int).any fun y => PyData.eqv y (.int k)) = l.contains k
  | [] => rfl
  | i :: l => by
    rw [List.map_cons, List.any_cons, anyI k l, List.contains_cons]
    show ((i == k) || _) = ((k == i) || _)
    rw [show (i == k) = (k == i) from by rw [Bool.eq_iff_iff, beq_iff_eq, beq_iff_eq]; exact eq_comm]

section
variable {c : Cx} {σ : AS}
theorem reads_cell {s : Shared} {a : Addr} {ds : List PyData} (x : c.St σ s) (hm : (a, .list (ds.map .dat)) ∈ σ.mem) : ∃ as, Reads s.heap (.ref a) (.list ds) as := by
  obtain ⟨vs, n, e, r⟩ := cell_at x hm
  obtain ⟨as, ra⟩ := VRels.reads r
  exact ⟨_, .list e rfl rfl (by simpa using ReadsAll.keeps x.sub_heap ra)⟩
theorem OP_inCell {a : Addr} {l : List Int} {k : Int} (hm : (a, .list (intsA l)) ∈ σ.mem) (hu : c.A.units + 1 < cLine) : c.OP2 (compareOp .In) (.int k) (.raw (.ref a)) σ (.bool (l.contains k)) σ := fun _ _ s v u x r₁ r₂ h => by
  obtain rfl : u = .ref a := r₂
  obtain ⟨as, q₁⟩ := r₁
  obtain ⟨bs, q₂⟩ := reads_cell x (ds := l.map .int) (by rw [List.map_map]; exact hm)
  refine SeqAt.in_list_reads q₂ (Reads.keeps x.sub_heap q₁) (canLay_ints l) rfl (by rw [depth_ints]; simpa using hu) ?_
  rw [anyI]
  exact h _ _ x Sub.rfl (VRel.mkBool ..)
theorem OP_notInCell {a : Addr} {l : List Int} {k : Int} (hm : (a, .list (intsA l)) ∈ σ.mem) (hu : c.A.units + 1 < cLine) : c.OP2 (compareOp .NotIn) (.int k) (.raw (.ref a)) σ (.bool (!l.contains k)) σ := fun _ _ s v u x r₁ r₂ h => by
  obtain rfl : u = .ref a := r₂
  obtain ⟨as, q₁⟩ := r₁
  obtain ⟨bs, q₂⟩ := reads_cell x (ds := l.map .int) (by rw [List.map_map]; exact hm)
  refine SeqAt.notIn_list_reads q₂ (Reads.keeps x.sub_heap q₁) (canLay_ints l) rfl (by rw [depth_ints]; simpa using hu) ?_
  rw [anyI]
  exact h _ _ x Sub.rfl (VRel.mkBool ..)
end

theorem pushAll_length (f : Int → Int → Int) (t here : Int) (inside : List Int) : ∀ ks hp, (pushAll f t here inside ks hp).length ≤ hp.length + ks.length
  | [], hp => by simp [pushAll]
  | k :: ks, hp => by
    unfold pushAll
    have := pushAll_length f t here inside ks (if inside.contains (k : Int) then hp else hpush hp (tieOf f t here k))
    split at this
    · rename_i h; rw [if_pos h]; simp; (first | lia | omega)
    · rename_i h; rw [if_neg h]; rw [hpush_length] at this; simp; (first | lia | omega)
theorem mul_ok {t x : Int} (ht : t = 1 ∨ t = -1) : IntMulOk t x := IntMulOk.of_left (by rcases ht with rfl | rfl <;> decide)
theorem tt {t x : Int} (ht : t = 1 ∨ t = -1) : t * (t * x) = x := by rcases ht with rfl | rfl <;> (first | lia | omega)

section
variable {c : Cx} {σ : AS} {mg mb : Str → Option Value}
theorem net_ok (G : Gd c.S₀ mg mb) (hA : AOk c.A 4) {others : List (Addr × ACell)} {fa : Addr} {n : Nat} {m : Int → Option AV} {f : Int → Int → Int} {count : Nat} {start t : Int} {res : List (List Int)} (hf : FarOk m f count) (ht : t = 1 ∨ t = -1)
    (hc : 3 ≤ count) (hc5 : count ≤ 5) (hs0 : 0 ≤ start) (hs1 : start < count) (hres : netM f count start t = some res) (hp : σ.mem.Perm ([(fa, .dict n m)] ++ others)) :
    c.OPs (fun vs => call (.ref 98) vs) [.raw (.ref fa), .int count, .int start, .int t] σ (.dat (.list ((sortP res).map fun x => .tuple (x.map .int)))) ⟨σ.loc, [(fa, .dict n m)] ++ others⟩ := by
  refine OP_fn K_net G.toGb (G.fn 18 98 (by decide)) hA.room hp rfl fun L' qual doc pm code ct an => ?_
  have hA1 := hA.in (n := 3) (callEnv (fdOf (pst 18) qual doc pm code ct an) L' 98)
  have hu1 : (c.A.deeper (callEnv (fdOf (pst 18) qual doc pm code ct an) L' 98)).units + 1 < cLine := by have := hA1.u; (first | lia | omega)
  refine EX_assignP (EP_listM (EVs_cons (EV_local rfl) EVs_nil)) ?_
  rintro _ _ ⟨ai, rfl, rfl⟩
  refine EX_assignP (EP_listM EVs_nil) ?_
  rintro _ _ ⟨ah, rfl, rfl⟩
  refine EX_assignP (EP_listM EVs_nil) ?_
  rintro _ _ ⟨an', rfl, rfl⟩
  refine EX_whileT (fun q σ' => ∃ (fuel : Nat) (inside : List Int) (hp net : List (List Int)), q = count - inside.length ∧ 0 < inside.length ∧ inside.length ≤ count ∧ inside.length + fuel = count + 2 ∧ net.length + 1 = inside.length ∧ hp.length ≤ 5 * inside.length ∧
      (∀ x ∈ inside, 0 ≤ x ∧ x < count) ∧ (∀ e ∈ hp, Tie count t e) ∧ (∀ e ∈ net, e.length = 2) ∧ netGo f count t fuel inside hp net = some res ∧
      σ' = mk [("far", .raw (.ref fa)), ("count", .int count), ("turn", .int t), ("inside", .raw (.ref ai)), ("heap", .raw (.ref ah)), ("net", .raw (.ref an'))] [(an', .list (net.map AV.ints)), (ah, .list (hp.map AV.ints)), (ai, .list (intsA inside)), (fa, .dict n m)]) ?_ (count - 1)
    (Le.mk (l := [("far", .raw (.ref fa)), ("count", .int count), ("turn", .int t), ("inside", .raw (.ref ai)), ("heap", .raw (.ref ah)), ("net", .raw (.ref an'))]) ⟨rfl, rfl, rfl, rfl, rfl, rfl, trivial⟩)
    ⟨count + 1, [start], [], [], rfl, by simp, by simp; (first | lia | omega), by simp; (first | lia | omega), rfl, by simp, by simpa using ⟨hs0, hs1⟩, by simp, by simp, hres, rfl⟩
  rintro q _ T hT ⟨fuel, inside, hp, net, rfl, hin0, hinc, hfuel, hnl, hhl, hin, htie, hn2, hgo, rfl⟩
  have hil : (intsA inside).length = inside.length := by simp [intsA]
  refine ⟨_, _, TV_cmp (EV_callB (EV_bl G rfl) (EVs_cons (EV_local rfl) EVs_nil) (OPs_lenCell (.tail _ (.tail _ (.head _))) (by rw [hil]; (first | lia | omega)))) (EV_local rfl) OP_lt, fun hv => ?_, fun hv => ?_⟩
  · have hlt : inside.length < count := by have := of_decide_eq_true hv; rw [hil] at this; (first | lia | omega)
    obtain ⟨fuel', rfl⟩ : ∃ k, fuel = k + 1 := ⟨fuel - 1, by (first | lia | omega)⟩
    rw [netGo, if_pos hlt] at hgo
    have hne : inside ≠ [] := List.length_pos_iff.mp hin0
    have hlast : (intsA inside).getLast? = some (.int (inside.getLastD 0)) := by
      rw [intsA, List.getLast?_map, List.getLastD_eq_getLast?, List.getLast?_eq_some_getLast hne]
      rfl
    have hlm : inside.getLastD 0 ∈ inside := by
      cases inside with
      | nil => exact absurd rfl hne
      | cons x xs => rw [List.getLastD_cons]; exact List.getLastD_mem_cons ..
    have hlr := hin _ hlm
    refine EX_assign (EV_sub (EV_local rfl) (EV_una EV_int OP_neg) (OP_lastCell (.tail _ (.tail _ (.head _))) hlast (by rw [hil]; (first | lia | omega)))) ?_
    generalize inside.getLastD 0 = here at *
    -- the pushes
    refine EX_forT (J := fun k σ' => ∃ hp' : List (List Int), hp'.length ≤ hp.length + k ∧ (∀ e ∈ hp', Tie count t e) ∧ pushAll f t here inside (List.range count) hp = pushAll f t here inside ((List.range count).drop k) hp' ∧
        σ' = mk [("far", .raw (.ref fa)), ("count", .int count), ("turn", .int t), ("inside", .raw (.ref ai)), ("heap", .raw (.ref ah)), ("net", .raw (.ref an')), ("here", .int here)] [(an', .list (net.map AV.ints)), (ah, .list (hp'.map AV.ints)), (ai, .list (intsA inside)), (fa, .dict n m)])
      (EV_callT (EV_bl G rfl) (EVs_cons (EV_local rfl) EVs_nil) OPs_range1) (up_ok (by (first | lia | omega))) hA1.h Own_name
      (Le.mk (l := [("far", .raw (.ref fa)), ("count", .int count), ("turn", .int t), ("inside", .raw (.ref ai)), ("heap", .raw (.ref ah)), ("net", .raw (.ref an')), ("here", .int here)]) (m := [(an', .list (net.map AV.ints)), (ah, .list (hp.map AV.ints)), (ai, .list (intsA inside)), (fa, .dict n m)]) ⟨rfl, rfl, rfl, rfl, rfl, rfl, rfl, trivial⟩)
      ⟨hp, by (first | lia | omega), htie, by simp, rfl⟩ ?_ ?_
    · rintro fr' k d _ T' hT' ⟨hp', hpl, htie', hpa, rfl⟩ hd
      obtain ⟨hk, rfl⟩ := up_item hd
      have hdr : (List.range count).drop k = k :: (List.range count).drop (k + 1) := by
        rw [List.drop_eq_getElem_cons (by simpa using hk)]; simp
      rw [hdr, pushAll] at hpa
      refine ⟨_, Asg_name, ?_⟩
      refine EX_if (TV_cmp (EV_local rfl) (EV_local rfl) (OP_notInCell (.tail _ (.tail _ (.head _))) hu1)) (fun hv => ?_) (fun hv => ?_)
      · have hnin : inside.contains (k : Int) = false := by simpa using hv
        rw [if_neg (by rw [hnin]; decide)] at hpa
        have hhk : here ≠ (k : Int) := fun e => by
          have : inside.contains (k : Int) = true := by rw [List.contains_iff_mem, ← e]; exact hlm
          rw [hnin] at this; cases this
        have hfar : m (min here (k : Int) * 5 + max here (k : Int)) = some (.int (f (min here (k : Int)) (max here (k : Int)))) := by
          obtain ⟨h', rfl⟩ := Int.eq_ofNat_of_zero_le hlr.1
          have e1 : min (h' : Int) (k : Int) = ((min h' k : Nat) : Int) := by (first | lia | omega)
          have e2 : max (h' : Int) (k : Int) = ((max h' k : Nat) : Int) := by (first | lia | omega)
          rw [e1, e2, show ((min h' k : Nat) : Int) * 5 + ((max h' k : Nat) : Int) = ((min h' k * 5 + max h' k : Nat) : Int) from by (first | lia | omega)]
          exact hf _ _ (by (first | lia | omega)) (by (first | lia | omega))
        refine EX_expr (EV_fn (i := 4) G (by decide) (EV_gl G rfl) (EVs_cons (EV_local rfl) (EVs_cons (EV_tuple (ds := (tieOf f t here k).map .int) (EVs_cons (EV_sub (EV_local rfl) (EV_bin (EV_bin (EV_callB (EV_bl G rfl) (EVs_cons (EV_local rfl) (EVs_cons (EV_local rfl) EVs_nil)) (OPs_min2 hA1.h)) EV_int (OP_mul (IntMulOk.of_right (by decide)))) (EV_callB (EV_bl G rfl) (EVs_cons (EV_local rfl) (EVs_cons (EV_local rfl) EVs_nil)) (OPs_max2 hA1.h)) OP_add) (OP_itemDict (.tail _ (.tail _ (.tail _ (.head _)))) hfar))
            (EVs_cons (EV_bin (EV_local rfl) (EV_local rfl) (OP_mul (mul_ok ht))) (EVs_cons (EV_bin (EV_local rfl) (EV_local rfl) (OP_mul (mul_ok ht))) EVs_nil))) (by simp [tieOf])) EVs_nil))
          (by exact heappush_ok (c := (c.in _ _ _ _).on _) (others := [(an', .list (net.map AV.ints)), (ai, .list (intsA inside)), (fa, .dict n m)]) (x := tieOf f t here k) G (hA1.less (by decide)) (List.Perm.swap _ _ _) (by (first | lia | omega)))) (EX_nil (EX_nil ?_))
        refine hT' _ _ ⟨_, ⟨hpush hp' (tieOf f t here k), by rw [hpush_length]; (first | lia | omega), fun e he => ?_, hpa, rfl⟩, ?_⟩
        · rcases List.mem_cons.mp ((hpush_perm hp' _).mem_iff.mp he) with rfl | he
          · exact ⟨_, here, k, rfl, hlr.1, hlr.2, by (first | lia | omega), by (first | lia | omega)⟩
          · exact htie' e he
        · exact Le.mkP ⟨rfl, rfl, rfl, rfl, rfl, rfl, rfl, trivial⟩ (List.Perm.swap _ _ _)
      · have hin' : inside.contains (k : Int) = true := by simpa using hv
        rw [if_pos hin'] at hpa
        refine EX_nil (EX_nil (hT' _ _ ⟨_, ⟨hp', by (first | lia | omega), htie', hpa, rfl⟩, Le.mk ⟨rfl, rfl, rfl, rfl, rfl, rfl, rfl, trivial⟩⟩))
    · rintro _ ⟨H, hHl, hHt, hpa, rfl⟩
      rw [up_length] at hHl hpa
      rw [List.drop_of_length_le (by simp), pushAll] at hpa
      rw [hpa] at hgo
      obtain ⟨e, H', hpp, hgo⟩ : ∃ e H', popU t inside H.length H = some (e, H') ∧ netGo f count t fuel' (inside ++ [t * e.getD 2 0]) H' (net ++ [pairOf t e]) = some res := by
        split at hgo
        · cases hgo
        · rename_i e H' hq; exact ⟨e, H', hq, hgo⟩
      have hH0 : 0 < H.length := by
        cases hh : H with
        | nil => rw [hh] at hpp; cases hpp
        | cons _ _ => simp
      have popT : ∀ {X : List (List Int)}, 0 < X.length → (∀ e ∈ X, Tie count t e) → Tie count t (hpop X).1 ∧ ∀ e ∈ (hpop X).2, Tie count t e := fun h0 hX =>
        ⟨hX _ ((hpop_perm h0).mem_iff.mp (.head _)), fun e he => hX _ ((hpop_perm h0).mem_iff.mp (.tail _ he))⟩
      have pop1 : (if inside.contains (t * (hpop H).1.getD 2 0) then popU t inside (H.length - 1) (hpop H).2 else some (hpop H)) = some (e, H') := by
        obtain ⟨q, hq⟩ : ∃ q, H.length = q + 1 := ⟨H.length - 1, by (first | lia | omega)⟩
        rw [hq, popU, if_neg (by simpa using List.length_pos_iff.mp hH0)] at hpp
        rw [hq]; exact hpp
      refine EX_assign (EV_fn (i := 5) G (by decide) (EV_gl G rfl) (EVs_cons (EV_local rfl) EVs_nil)
        (by exact heappop_ok (c := c.in _ _ _ _) (others := [(an', .list (net.map AV.ints)), (ai, .list (intsA inside)), (fa, .dict n m)]) G hA1 (List.Perm.swap _ _ _) hH0 (by (first | lia | omega)))) ?_
      refine EX_whileT (fun q σ' => ∃ (tie : List Int) (X : List (List Int)) (k : Nat), q = X.length ∧ X.length ≤ H.length ∧ Tie count t tie ∧ (∀ e ∈ X, Tie count t e) ∧ (if inside.contains (t * tie.getD 2 0) then popU t inside k X else some (tie, X)) = some (e, H') ∧
          σ' = mk [("far", .raw (.ref fa)), ("count", .int count), ("turn", .int t), ("inside", .raw (.ref ai)), ("heap", .raw (.ref ah)), ("net", .raw (.ref an')), ("tie", .ints tie)] [(ah, .list (X.map AV.ints)), (an', .list (net.map AV.ints)), (ai, .list (intsA inside)), (fa, .dict n m)]) ?_ (hpop H).2.length
        (Le.mk (l := [("far", .raw (.ref fa)), ("count", .int count), ("turn", .int t), ("inside", .raw (.ref ai)), ("heap", .raw (.ref ah)), ("net", .raw (.ref an')), ("tie", .ints (hpop H).1)]) ⟨rfl, rfl, rfl, rfl, rfl, rfl, rfl, trivial⟩)
        ⟨(hpop H).1, (hpop H).2, H.length - 1, rfl, by rw [hpop_length _ hH0]; (first | lia | omega), (popT hH0 hHt).1, (popT hH0 hHt).2, pop1, rfl⟩
      rintro q _ T' hT' ⟨tie, X, k, rfl, hXl, hT, hX, hX1, rfl⟩
      obtain ⟨w, th, tk, rfl, h1, h2, h3, h4⟩ := hT
      refine ⟨_, _, TV_cmp (EV_bin (EV_local rfl) (EV_sub (EV_local rfl) EV_int (OP_itemTup (j := 2) rfl rfl)) (OP_mul (mul_ok ht))) (EV_local rfl) (OP_inCell (.tail _ (.tail _ (.head _))) hu1), fun hv => ?_, fun hv => ?_⟩
      · have hX2 : popU t inside k X = some (e, H') := by
          have : inside.contains (t * [w, t * th, t * tk].getD 2 0) = true := hv
          rwa [if_pos this] at hX1
        have hX0 : 0 < X.length := by
          cases hh : X with
          | nil => rw [hh] at hX2; cases k <;> cases hX2
          | cons _ _ => simp
        obtain ⟨k', rfl⟩ : ∃ k', k = k' + 1 := by
          cases k with
          | zero => cases hX2
          | succ k => exact ⟨k, rfl⟩
        refine EX_assign (EV_fn (i := 5) G (by decide) (EV_gl G rfl) (EVs_cons (EV_local rfl) EVs_nil)
          (by exact heappop_ok (c := c.in _ _ _ _) (others := [(an', .list (net.map AV.ints)), (ai, .list (intsA inside)), (fa, .dict n m)]) G hA1 (List.Perm.refl _) hX0 (by (first | lia | omega)))) (EX_nil ?_)
        rw [popU, if_neg (by simpa using List.length_pos_iff.mp hX0)] at hX2
        exact hT' _ _ ⟨(hpop X).2.length, _, by rw [hpop_length _ hX0]; (first | lia | omega), ⟨(hpop X).1, (hpop X).2, k', rfl, by rw [hpop_length _ hX0]; (first | lia | omega), (popT hX0 hX).1, (popT hX0 hX).2, hX2, rfl⟩, Le.mk ⟨rfl, rfl, rfl, rfl, rfl, rfl, rfl, trivial⟩⟩
      · have hX2 : ([w, t * th, t * tk], X) = (e, H') := by
          have : inside.contains (t * [w, t * th, t * tk].getD 2 0) = false := hv
          rw [if_neg (by rw [this]; decide)] at hX1
          exact Option.some.inj hX1
        obtain ⟨rfl, rfl⟩ := Prod.mk.inj hX2
        refine EX_expr (EV_append (EV_local rfl) (.tail _ (.tail _ (.head _))) (EV_bin (EV_local rfl) (EV_sub (EV_local rfl) EV_int (OP_itemTup (j := 2) rfl rfl)) (OP_mul (mul_ok ht))) (.tail (.tail .head)) (by rw [hil]; (first | lia | omega))) ?_
        refine EX_expr (EV_append (d := .ints (pairOf t [w, t * th, t * tk])) (EV_local rfl) (.tail _ (.head _)) (EV_tuple (ds := (pairOf t [w, t * th, t * tk]).map .int) (EVs_cons (EV_callB (EV_bl G rfl) (EVs_cons (EV_bin (EV_local rfl) (EV_sub (EV_local rfl) EV_int (OP_itemTup (j := 1) rfl rfl)) (OP_mul (mul_ok ht))) (EVs_cons (EV_bin (EV_local rfl) (EV_sub (EV_local rfl) EV_int (OP_itemTup (j := 2) rfl rfl)) (OP_mul (mul_ok ht))) EVs_nil)) (OPs_min2 hA1.h))
          (EVs_cons (EV_callB (EV_bl G rfl) (EVs_cons (EV_bin (EV_local rfl) (EV_sub (EV_local rfl) EV_int (OP_itemTup (j := 1) rfl rfl)) (OP_mul (mul_ok ht))) (EVs_cons (EV_bin (EV_local rfl) (EV_sub (EV_local rfl) EV_int (OP_itemTup (j := 2) rfl rfl)) (OP_mul (mul_ok ht))) EVs_nil)) (OPs_max2 hA1.h)) EVs_nil)) (by simp [pairOf])) (.tail .head) (by simp; (first | lia | omega))) (EX_nil ?_)
        refine hT _ _ ⟨count - (inside ++ [t * [w, t * th, t * tk].getD 2 0]).length, _, by simp; (first | lia | omega), ⟨fuel', inside ++ [t * [w, t * th, t * tk].getD 2 0], X, net ++ [pairOf t [w, t * th, t * tk]], rfl, by simp, by simp; (first | lia | omega), by simp; (first | lia | omega), by simp; (first | lia | omega), by simp; (first | lia | omega), ?_, hX, ?_, hgo, rfl⟩, Le.mkP ⟨rfl, rfl, rfl, rfl, rfl, rfl, trivial⟩ ?_⟩
        · intro x hx
          rcases List.mem_append.mp hx with hx | hx
          · exact hin x hx
          · obtain rfl : x = t * (t * tk) := by simpa using hx
            rw [tt ht]; exact ⟨h3, h4⟩
        · intro x hx
          rcases List.mem_append.mp hx with hx | hx
          · exact hn2 x hx
          · obtain rfl : x = pairOf t [w, t * th, t * tk] := by simpa using hx
            rfl
        · have e1 : intsA inside ++ [AV.int (t * (t * tk))] = intsA (inside ++ [t * [w, t * th, t * tk].getD 2 0]) := by simp [intsA]
          have e2 : net.map AV.ints ++ [AV.ints (pairOf t [w, t * th, t * tk])] = (net ++ [pairOf t [w, t * th, t * tk]]).map AV.ints := by simp
          show List.Perm [(ah, ACell.list (X.map AV.ints)), (an', ACell.list (net.map AV.ints ++ [AV.ints (pairOf t [w, t * th, t * tk])])), (ai, ACell.list (intsA inside ++ [AV.int (t * (t * tk))])), (fa, ACell.dict n m)] _
          rw [e1, e2]
          exact List.Perm.swap _ _ _
  · have hlt : ¬ inside.length < count := by have := of_decide_eq_false hv; rw [hil] at this; (first | lia | omega)
    obtain ⟨fuel', rfl⟩ : ∃ k, fuel = k + 1 := ⟨fuel - 1, by (first | lia | omega)⟩
    rw [netGo, if_neg hlt] at hgo
    obtain rfl : net = res := Option.some.inj hgo
    refine EX_ret (EV_callB (EV_bl G rfl) (EVs_cons (EV_local rfl) EVs_nil) (OPs_sorted (.head _) hn2 (by (first | lia | omega)) (by (first | lia | omega)))) ⟨rfl, ?_⟩
    exact ((List.Sublist.refl _).cons _ |>.cons _ |>.cons _)
end
end Mine

end

noncomputable section
open PySem PySem.W PyProof.Rows PySem.Calls
set_option Elab.async false
set_option linter.unusedVariables false
set_option maxRecDepth 100000
namespace Mine

section
variable {S₀ : Shared} {L : Addr} {s : Shared}
/-- a list that will change no more -/
theorem St.freeze {σ : AS} {a : Addr} {ds : List PyData} {m : List (Addr × ACell)} {loc' : Str → Option AV} (x : St S₀ L σ s) (hp : σ.mem.Perm ((a, .list (ds.map .dat)) :: m))
    (hl : ∀ y d, loc' y = some d → σ.loc y = some d ∨ (σ.loc y = some (.raw (.ref a)) ∧ d = .dat (.list ds))) :
    St S₀ L ⟨loc', m⟩ s ∧ Sub (frzS L σ s) (frzS L ⟨loc', m⟩ s) ∧ ∃ as, Reads (frzS L ⟨loc', m⟩ s) (.ref a) (.list ds) as := by
  obtain ⟨x₁, k₁, _⟩ := x.perm hp
  obtain ⟨x₂, k₂⟩ := x₁.less (σ' := ⟨σ.loc, m⟩) (List.sublist_cons_self _ _) (fun _ _ e => e)
  obtain ⟨vs, n, e, r⟩ := x₁.mem _ List.mem_cons_self
  obtain ⟨as, ra⟩ := VRels.reads r
  have hn : a ∉ dom L ⟨σ.loc, m⟩ := by
    have nd := x₁.nodup
    intro hb
    rcases List.mem_cons.mp hb with rfl | hb
    · exact (List.nodup_cons.mp nd).1 List.mem_cons_self
    · exact (List.nodup_cons.mp (List.nodup_cons.mp nd).2).1 hb
  have hr : Reads (frzS L ⟨σ.loc, m⟩ s) (.ref a) (.list ds) _ := .list (frz_get.mpr ⟨e, hn⟩) rfl rfl (by simpa using ReadsAll.keeps k₂ ra)
  refine ⟨⟨x₂.rest, x₂.keep, x₂.nodup, ?_, x₂.mem⟩, k₁.trans k₂, ⟨_, hr⟩⟩
  obtain ⟨mc, n', r'⟩ := x₂.ns
  refine ⟨mc, n', fun y d hd => ?_⟩
  rcases hl y d hd with h | ⟨h, rfl⟩
  · exact r' y d h
  · obtain ⟨v, h1, h2⟩ := r' y _ h
    exact ⟨v, h1, by obtain rfl : v = .ref a := h2; exact ⟨_, hr⟩⟩
end

section
variable {c : Cx} {σ σ₁ σ₂ σ₃ : AS} {P : AFl → AS → Prop} {rest : List Stmt}
def FrzLoc (σ : AS) (a : Addr) (ds : List PyData) : List (Str × AV) → Prop
  | [] => True
  | (x, d) :: r => (σ.loc x = some d ∨ (σ.loc x = some (.raw (.ref a)) ∧ d = .dat (.list ds))) ∧ FrzLoc σ a ds r
theorem FrzLoc.le {a : Addr} {ds : List PyData} : ∀ {l : List (Str × AV)}, FrzLoc σ a ds l → ∀ y d, l.lookup y = some d → σ.loc y = some d ∨ (σ.loc y = some (.raw (.ref a)) ∧ d = .dat (.list ds))
  | [], _, _, _, e => by cases e
  | (x, d) :: r, h, y, e, he => by
    rw [List.lookup_cons] at he
    cases hy : y == x with
    | true =>
      rw [hy] at he
      obtain rfl : y = x := by simpa using hy
      cases he; exact h.1
    | false => rw [hy] at he; exact FrzLoc.le h.2 y e he
theorem EX_freeze {ss : List Stmt} {a : Addr} {ds : List PyData} {m : List (Addr × ACell)} (l : List (Str × AV)) (hp : σ.mem.Perm ((a, .list (ds.map .dat)) :: m))
    (hl : FrzLoc σ a ds l) (h : c.EX ss (Mine.mk l m) P) : c.EX ss σ P := fun E Q s x hq => by
  obtain ⟨y, k, _⟩ := Mine.St.freeze x (a := a) (ds := ds) (m := m ++ c.fr) (loc' := fun x => l.lookup x) (by exact hp.append_right c.fr) hl.le
  exact h _ _ s y fun f s' a' σ' hp' y' k' r' => hq f s' a' σ' hp' y' (k.trans k') r'
theorem EX_tryOk {body : List Stmt} {h₀ : ExceptHandler} {hs : List ExceptHandler} {p : Pos} (h : c.EX body σ (c.Then rest P)) : c.EX (.Try body (h₀ :: hs) [] [] p :: rest) σ P := EX_cons fun E Q s y hq =>
  wpAny_Try_except (h _ _ s y fun f s' a σ' hp y' k' r' => by
    cases a with
    | next => obtain rfl := r'.next; exact wpAny_execs_nil (hq _ _ .next _ hp y' k' trivial)
    | brk => obtain rfl := r'.brk; exact hq _ _ .brk _ hp y' k' trivial
    | cont => obtain rfl := r'.cont; exact hq _ _ .cont _ hp y' k' trivial
    | ret d => obtain ⟨v, rfl, r⟩ := r'.ret; exact hq _ _ (.ret d) _ hp y' k' r)

def isI (k : Int) : Value → Bool
  | .int i _ => i == k
  | _ => false
theorem vrels_ints {g : Heap} : ∀ {vs : List Value} {ns : List Int}, VRels g vs (intsA ns) → ∀ (i : Nat) v, vs[i]? = some v → ∃ t n, ns[i]? = some n ∧ v = .int n t
  | [], [], _, _, _, h => by simp at h
  | v :: vs, n :: ns, r, 0, w, h => by
    obtain ⟨t, rfl⟩ := VRel.int r.1
    obtain rfl : Value.int n t = w := by simpa using h
    exact ⟨t, n, rfl, rfl⟩
  | _ :: vs, _ :: ns, r, i + 1, w, h => by
    obtain ⟨t, n, h1, h2⟩ := vrels_ints (vs := vs) (ns := ns) r.2 i w (by simpa using h)
    exact ⟨t, n, by simpa using h1, h2⟩
  | [], _ :: _, r, _, _, _ => r.elim
  | _ :: _, [], r, _, _, _ => r.elim
theorem EV_remove {o e : Expr} {apos pos : Pos} {a : Addr} {ns : List Int} {k : Int} {pl : Sem Bool} {m' : List (Addr × ACell)} (ho : c.EV o σ (.raw (.ref a)) σ) (he : c.EV e σ (.int k) σ) (hk : k ∈ ns) (u : Upd σ.mem a (.list (intsA ns)) (.list (intsA (ns.erase k))) m') (hz : ns.length < 1000000)
    (hb : backTo pos (starEach [e] c.env) = [(false, eval e c.env)] := by rfl)
    (hc : eval (.Call (.Attribute o "remove" apos) [e] [] pos) c.env = (do
      let ov ← eval o c.env
      standAt apos.atName
      let (f, first) ← holding [ov] (getMethod ov "remove" pl)
      callWith pos f first (backTo pos (starEach [e] c.env)) []) := by rfl) : c.EV (.Call (.Attribute o "remove" apos) [e] [] pos) σ .none ⟨σ.loc, m'⟩ := fun E Q s x hq =>
  MethodCall_ (pl := pl) (ho _ _ s x fun v s₁ x₁ k₁ r₁ => by
    obtain rfl : v = .ref a := r₁
    obtain ⟨vs, n, e1, r⟩ := cell_at x₁ u.mem
    refine getMethod_list_of F.slot_list_remove F.type_list_remove (PySem.IsL.isList (n := n) e1) ⟨_, e1, rfl⟩ ?_
    rw [hb]
    refine P.remove_list (he _ _ s₁ x₁ fun v₂ s₂ x₂ k₂ r₂ => ?_)
    obtain ⟨t, rfl⟩ := r₂.int
    obtain ⟨vs, n, e2, r⟩ := cell_at x₂ u.mem
    have hl := r.length
    have hl' : vs.length = ns.length := by rw [hl]; simp [intsA]
    have hj : ns.idxOf k < ns.length := List.idxOf_lt_length_of_mem hk
    have key : ∀ (i : Nat) (hi : i < vs.toArray.size), isI k vs.toArray[i] = (ns.getD i 0 == k) := fun i hi => by
      obtain ⟨t, q, h1, h2⟩ := vrels_ints r i (vs.toArray[i]) (by simp at hi ⊢)
      rw [h2, List.getD_eq_getElem?_getD, h1]; rfl
    obtain ⟨y, q⟩ := St_setList (f := fun xs => xs.eraseIdxIfInBounds (ns.idxOf k)) (vs' := vs.eraseIdx (ns.idxOf k)) x₂ u e2 (by
      apply Array.toList_inj.mp
      rw [Array.eraseIdxIfInBounds, dif_pos (by simp only [List.size_toArray]; (first | lia | omega))]
      simp) (by
        rw [List.erase_eq_eraseIdx_of_idxOf rfl]
        have := r.eraseIdx (ns.idxOf k)
        have e3 : ∀ (l : List Int) (i : Nat), (intsA l).eraseIdx i = intsA (l.eraseIdx i) := fun l => by
          induction l with
          | nil => intro i; rfl
          | cons x l ih => intro i; cases i with | zero => rfl | succ i => show AV.int x :: (intsA l).eraseIdx i = AV.int x :: intsA (l.eraseIdx i); rw [ih]
        rw [e3] at this
        exact this) s₂.toks
    refine ⟨vs.toArray, n, isI k, ns.idxOf k, by simp only [List.size_toArray]; (first | lia | omega), by rw [sizeLine_eq]; simp only [List.size_toArray]; (first | lia | omega), e2, fun y hy => ?_, ?_, fun i hi hlt => ?_, hq _ _ y ((k₁.trans k₂).trans q) VRel.mkNone⟩
    · obtain ⟨i, hi, rfl⟩ := List.mem_iff_getElem.mp (List.mem_toArray.mp hy)
      obtain ⟨t', q', _, h2⟩ := vrels_ints r i (vs[i]) (List.getElem?_eq_getElem hi)
      rw [h2]
      exact PySem.MeetsSeq.EqGives.int q' k t' t
    · rw [key, List.getD_eq_getElem?_getD, List.getElem?_eq_getElem hj, List.getElem_idxOf]; simp
    · rw [key, List.getD_eq_getElem?_getD, List.getElem?_eq_getElem (by simp at hi; (first | lia | omega))]
      have := List.not_of_lt_findIdx (p := (· == k)) (xs := ns) (i := i) (by simpa [List.idxOf] using hlt)
      simpa using this) hc
end

theorem K_uno : FnOk 2 ["expected", "actual"] := ⟨rfl, fun _ _ _ _ _ _ => vals2 fun _ _ => rfl, by decide, by decide, by decide, rfl, rfl, rfl⟩

section
variable {c : Cx} {σ : AS} {mg mb : Str → Option Value}
theorem unord_ok (G : Gd c.S₀ mg mb) (hA : AOk c.A 1) {others : List (Addr × ACell)} {a b : Addr} {xs ys : List Int} (hp : σ.mem.Perm ([(a, .list (intsA xs)), (b, .list (intsA ys))] ++ others)) (hxy : xs.Perm ys) (hz : xs.length < 100000) :
    c.OPs (fun vs => call (.ref 28) vs) [.raw (.ref a), .raw (.ref b)] σ (.dat (.tuple [.list [], .list []])) ⟨σ.loc, [] ++ others⟩ := by
  refine OP_fn K_uno G.toGb (G.fn 2 28 (by simp)) hA.room hp rfl fun L' qual doc pm code ct an => ?_
  refine EX_assignP (EP_listM EVs_nil) ?_
  rintro _ _ ⟨am, rfl, rfl⟩
  refine EX_while (fun n σ' => ∃ (us vs : List Int), us.length = n ∧ us.length ≤ xs.length ∧ us.Perm vs ∧
      σ' = mk [("expected", .raw (.ref a)), ("actual", .raw (.ref b)), ("missing", .raw (.ref am))] [(am, .list (intsA [])), (a, .list (intsA us)), (b, .list (intsA vs))]) ?_ xs.length
    (Le.mk (l := [("expected", .raw (.ref a)), ("actual", .raw (.ref b)), ("missing", .raw (.ref am))]) ⟨rfl, rfl, rfl, trivial⟩) ⟨xs, ys, rfl, Nat.le_refl _, hxy, rfl⟩
  rintro n _ ⟨us, vs, rfl, hle, hper, rfl⟩
  refine ⟨_, _, TV_plain (EV_local rfl) (TT_cell (.tail _ (.head _)) (by simp [intsA]; (first | lia | omega))), fun hv => ?_, fun hv => ?_⟩
  · have hne : us ≠ [] := by rintro rfl; simp [intsA] at hv
    obtain ⟨i, zs, hz'⟩ : ∃ zs i, us = zs ++ [i] := ⟨us.dropLast, us.getLast hne, (List.dropLast_concat_getLast hne).symm⟩
    subst hz'
    have hlast : (intsA (i ++ [zs])).getLast? = some (.int zs) := by simp [intsA]
    have hmem : zs ∈ vs := hper.mem_iff.mp (by simp)
    refine EX_assign (EV_pop (EV_local rfl) hlast (.tail .head) (by simp [intsA] at hle ⊢; (first | lia | omega))) ?_
    refine EX_tryOk (EX_expr (EV_remove (ns := vs) (EV_local rfl) (EV_local rfl) hmem (.tail (.tail .head)) (by have := hper.length_eq; (first | lia | omega))) (EX_nil (EX_nil ?_)))
    refine ⟨i.length, _, by simp, ⟨i, vs.erase zs, rfl, by simp at hle; (first | lia | omega), ?_, rfl⟩, Le.mk ⟨rfl, rfl, rfl, trivial⟩ ?_⟩
    · have h1 : (zs :: i).Perm vs := (List.perm_append_comm (l₁ := [zs]) (l₂ := i)).trans hper
      have := h1.erase zs
      simpa using this
    · have e : (intsA (i ++ [zs])).dropLast = intsA i := by simp [intsA]
      show List.Sublist _ [(am, ACell.list (intsA [])), (a, .list (intsA (i ++ [zs])).dropLast), (b, .list (intsA (vs.erase zs)))]
      rw [e]; exact List.Sublist.refl _
  · have hne : us = [] := by cases us with | nil => rfl | cons _ _ => simp [intsA] at hv
    subst hne
    have hnv : vs = [] := hper.nil_eq.symm
    subst hnv
    refine EX_freeze (a := am) (ds := []) (m := [(a, .list (intsA [])), (b, .list (intsA []))]) [("actual", .raw (.ref b)), ("missing", .dat (.list []))] (List.Perm.refl _) ⟨.inl rfl, .inr ⟨rfl, rfl⟩, trivial⟩ ?_
    refine EX_freeze (a := b) (ds := []) (m := [(a, .list (intsA []))]) [("actual", .dat (.list [])), ("missing", .dat (.list []))] (List.Perm.swap _ _ _) ⟨.inr ⟨rfl, rfl⟩, .inl rfl, trivial⟩ ?_
    refine EX_ret (EV_tuple (ds := [.list [], .list []]) (EVs_cons (EV_local rfl) (EVs_cons (EV_local rfl) EVs_nil))) ⟨rfl, List.nil_sublist _⟩
end
end Mine

end

noncomputable section
open PySem PySem.W PyProof.Rows PySem.Calls
set_option Elab.async false
set_option linter.unusedVariables false
set_option maxRecDepth 100000
namespace Mine

structure NewX (h h' : Heap) (e : Addr) (cls : String) (ctx : Value) : Prop where
  keeps : Sub h h'
  new : h.get? e = none
  there : ∃ ob t, h'.get? e = some ob ∧ ob.cls = .type cls ∧ ob.data = .fields #[t, .none, ctx, .none, .bool false, .none]
/-- what is being handled has no context of its own -/
def HOk (A : Around) (h : Heap) : Prop := A.handled = none ∨ ∃ x ox vs, A.handled = some (.ref x) ∧ h.get? x = some ox ∧ ox.data = .fields vs ∧ vs[2]? = some .none
def hctx (A : Around) : Value := A.handled.getD .none

theorem entry_unchain : entryFor table "proto.unchain" = some Builtin.«proto.unchain» := entryFor_of_tree (by kernel_rfl)

section
variable {prog : Program} {w : World} {A : Around} {E : Value → Shared → Prop} {s : Shared} {α : Type}
theorem raiseNewH {e : Addr} {ob : Obj} {t : Value} {cls : String} {Q : α → Shared → Prop} (ho : HOk A s.heap) (he : s.heap.get? e = some ob) (hc : ob.cls = .type cls) (hd : ob.data = .fields #[t, .none, .none, .none, .bool false, .none])
    (hx : ∀ x, A.handled = some (.ref x) → x ≠ e)
    (h : ∀ h' ob', Heap.SameBut e s.heap h' → h'.get? e = some ob' → ob'.cls = .type cls → ob'.data = .fields #[t, .none, hctx A, .none, .bool false, .none] → E (.ref e) { s with heap := h' }) : wpAny (model prog w) A (raiseNew (.ref e) : Sem α) Q E s := by
  rcases ho with hh | ⟨x, ox, vs, hh, hox, hdx, h2⟩
  · refine wpAny_raiseNew_none hh (h s.heap ob (.refl ..) he hc ?_)
    rw [hctx, hh]; exact hd
  · have hne := hx x hh
    unfold raiseNew
    refine wpAny_bind (wpAny_handled ?_)
    rw [hh]
    show wpAny _ _ (if (Value.ref x != Value.ref e) = true then _ else _) _ _ s
    rw [if_pos (by simpa using hne)]
    refine wpAny_bind (wpAny_holding (wpAny_runValue (codeAny_builtin entry_unchain ?_)))
    unfold Builtin.«proto.unchain»
    show wpAny _ _ (field (.ref x) 2 >>= _) _ _ s
    refine wpAny_bind (wpAny_field hox hdx h2 ?_)
    rw [if_pos (by rfl)]
    refine wpAny_pure ?_
    refine wpAny_bind (wpAny_setField he hd (by simp) (wpAny_throw (h _ (ob.mapFields (·.setIfInBounds 2 (.ref x))) (.update ..) (Heap.get?_update_self _ he ?_) ?_ ?_)))
    · exact Obj.isFreed_of_fields (Obj.data_mapFields hd _)
    · rw [← hc]; cases ob; cases hd; rfl
    · rw [Obj.data_mapFields hd, hctx, hh]; rfl
theorem raiseWordsH {cls msg : String} {Q : α → Shared → Prop} (hp : PlainExc cls) (ho : HOk A s.heap)
    (h : ∀ h' tk e, NewX s.heap h' e cls (hctx A) → E (.ref e) { s with heap := h', toks := tk }) : wpAny (model prog w) A (raiseErrorWords cls msg : Sem α) Q E s := by
  unfold raiseErrorWords
  refine wpAny_bind (wpAny_mkText (wpAny_bind (wpAny_newExc_plain hp fun h₁ e hm₁ => ?_)))
  obtain ⟨tt, ht, _⟩ := hm₁.there
  refine raiseNewH (cls := cls) (t := .ref tt) ?_ ht rfl rfl ?_ fun h' ob' hs he' hc' hd' => ?_
  · rcases ho with hh | ⟨x, ox, vs, hh, hox, hdx, h2⟩
    · exact .inl hh
    · exact .inr ⟨x, ox, vs, hh, hm₁.keeps _ _ hox, hdx, h2⟩
  · rintro x hh rfl
    rcases ho with hn | ⟨x', ox, vs, hh', hox, hdx, h2⟩
    · rw [hn] at hh; cases hh
    · rw [hh] at hh'; cases hh'
      have := hm₁.new
      rw [show s.heap.get? _ = some ox from hox] at this; cases this
  · refine h _ _ _ ⟨fun b o hb => (hs.2 b ?_).trans (hm₁.keeps b o hb), hm₁.new, ob', .ref tt, he', hc', hd'⟩
    rintro rfl
    have := hm₁.new
    rw [show s.heap.get? _ = some o from hb] at this; cases this
theorem getItem_outH {l : Addr} {items : Array Value} {k : Int} {t : Tok} {Q : Value → Shared → Prop} (ho : HOk A s.heap) (hl : s.heap.IsList l items) (hout : (items.size : Int) ≤ k) (hhi : k < 2 ^ 63)
    (hE : ∀ h' tk e, NewX s.heap h' e "IndexError" (hctx A) → E (.ref e) { s with heap := h', toks := tk }) :
    wpAny (model prog w) A (getItem (.ref l) (.int k t)) Q E s := by
  obtain ⟨o, ho', hc, ne, hd⟩ := id hl
  unfold getItem
  refine wpAny_holding ?_
  refine wpAny_bind (wpAny_sequenceKey hl.typeIs (by decide) ?_)
  refine wpAny_bind (wpAny_callSpecial?_slot (name := Str.ofString "__getitem__") hl.typeIs slot_list_getitem
    (wpAny_call_entry slot_list_getitem hl.typeIs entry_list_getitem ?_ (args_list_getitem _ _)))
  show wpAny _ _ (Builtin.List.listSubscript? (.int k t) >>= _) _ _ s
  refine wpAny_bind (wpAny_listSubscript_int (fitsIndex_both (by (first | lia | omega)) hhi) ?_)
  obtain ⟨j, rfl⟩ := Int.eq_ofNat_of_zero_le (show 0 ≤ k by (first | lia | omega))
  have hx : items[j]? = none := Array.getElem?_eq_none (by (first | lia | omega))
  show wpAny _ _ ((seqItemAt l j >>= fun r => pure (r.map (j, ·))) >>= _) _ _ s
  refine wpAny_bind (wpAny_bind (wpAny_seqItemAt ho' hd (wpAny_pure ?_)))
  rw [hx]
  exact wpAny_bind (wpAny_rule (wpAny_bind (raiseWordsH plainExc_IndexError ho hE)))
end
end Mine

end

noncomputable section
open PySem PySem.W PyProof.Rows PySem.Calls
set_option Elab.async false
set_option linter.unusedVariables false
set_option maxRecDepth 100000
namespace Mine

section
variable {S₀ : Shared} {L : Addr} {σ : AS} {s : Shared}
/-- slots of frames change -/
theorem St.slots {S : List Addr} {h' : Heap} (x : St S₀ L σ s) (hs : Heap.SlotsOnly S s.heap h') (hS : ∀ b ∈ S, b = L ∨ ∃ m, (b, ACell.ns m) ∈ σ.mem) : St S₀ L σ { s with heap := h' } ∧ Sub (frzS L σ s) (frzS L σ { s with heap := h' }) := by
  have nd := x.nodup
  have hSd : ∀ b ∈ S, b ∈ dom L σ := fun b hb => by
    rcases hS b hb with rfl | ⟨m, hm⟩
    · exact List.mem_cons_self
    · exact .tail _ (List.mem_map_of_mem (f := Prod.fst) hm)
  have y : Sub (frzS L σ s) (frzS L σ { s with heap := h' }) := frz_sub fun b o e n => ⟨(hs.2.1 b fun hb => n (hSd b hb)).trans e, n⟩
  have hns : ∀ {a m}, s.heap.Ns a m → h'.Ns a m := fun {a m} ⟨o, es, ep, ho, hd, r⟩ => by
    obtain ⟨sl, e⟩ := hs.2.2 a o ho
    exact ⟨_, es, ep, e, hd, r⟩
  refine ⟨⟨by obtain ⟨h, t, rfl⟩ := x.rest; exact ⟨h', t, rfl⟩, x.keep.trans y, nd, ?_, fun p hp => ?_⟩, y⟩
  · obtain ⟨mc, n, r⟩ := x.ns
    exact ⟨mc, hns n, r.mono y⟩
  · by_cases hb : p.1 ∈ S
    · rcases hS _ hb with e | ⟨m, hm⟩
      · exact absurd (List.mem_map_of_mem (f := Prod.fst) hp) (by rw [e]; exact (List.nodup_cons.mp nd).1)
      · have hpe : p = (p.1, ACell.ns m) := by
          have nd' := (List.nodup_cons.mp nd).2
          have : ∀ (l : List (Addr × ACell)), (l.map Prod.fst).Nodup → ∀ a b, a ∈ l → b ∈ l → a.1 = b.1 → a = b := by
            intro l
            induction l with
            | nil => intro _ a b ha; cases ha
            | cons q l ih =>
              intro hn a b ha hb' hab
              simp only [List.map_cons, List.nodup_cons] at hn
              rcases List.mem_cons.mp ha with ha1 | ha1 <;> rcases List.mem_cons.mp hb' with hb1 | hb1
              · rw [ha1, hb1]
              · exact absurd (List.mem_map_of_mem (f := Prod.fst) hb1) (by rw [← hab, ha1]; exact hn.1)
              · exact absurd (List.mem_map_of_mem (f := Prod.fst) ha1) (by rw [hab, hb1]; exact hn.1)
              · exact ih hn.2 a b ha1 hb1 hab
          exact this _ nd' _ _ hp hm rfl
        rw [hpe]
        have q := x.mem _ hm
        obtain ⟨mc, n, r⟩ := q
        exact ⟨mc, hns n, r.mono y⟩
    · exact (x.mem p hp).same y (hs.2.1 _ hb)
end

/-- an IndexError, with its traceback and its context -/
def XO (tb ctx : Value) (o : Obj) : Prop := o.cls = .type "IndexError" ∧ ∃ vs, o.data = .fields vs ∧ vs[1]? = some tb ∧ vs[2]? = some ctx
def TBO (f : Value) (o : Obj) : Prop := ∃ vs, o.data = .fields vs ∧ vs[3]? = some f
inductive XS where
  | fresh
  | noted (tb : Addr)
def xc (e : Addr) (ctx : Value) (L : Addr) : XS → List (Addr × ACell)
  | .fresh => [(e, .obj (XO .none ctx))]
  | .noted tb => [(e, .obj (XO (.ref tb) ctx)), (tb, .obj (TBO (rawInt L)))]
def hc (e tb : Addr) (ctx : Value) : List (Addr × ACell) := [(e, .obj (XO (.ref tb) ctx)), (tb, .obj (TBO .none))]

structure FrOk (c : Cx) : Prop where
  here : c.env.frame = some c.env.locals
  all : ∃ outer, c.A.frames = some (c.env :: outer) ∧ ∀ env ∈ c.env :: outer, env.scope.kind ≠ .module ∧ ∃ Lk, env.frame = some Lk ∧ (Lk = c.env.locals ∨ ∃ m, (Lk, ACell.ns m) ∈ c.fr)
theorem FrOk.in {c : Cx} (F : FrOk c) (fd : FuncData) (a L' : Addr) (loc : Str → Option AV) (others : List (Addr × ACell)) (hk : fd.scope.kind = .function) : FrOk (c.in fd a L' ((c.env.locals, .ns loc) :: (others ++ c.fr))) := by
  obtain ⟨h1, outer, h2, h3⟩ := F
  refine ⟨rfl, c.env :: outer, by show c.A.frames.map _ = _; rw [h2]; rfl, fun env he => ?_⟩
  rcases List.mem_cons.mp he with rfl | he
  · refine ⟨?_, L', rfl, .inl rfl⟩
    show fd.scope.kind ≠ .module
    rw [hk]; decide
  · obtain ⟨q1, Lk, q2, q3⟩ := h3 env he
    refine ⟨q1, Lk, q2, .inr ?_⟩
    rcases q3 with rfl | ⟨m, hm⟩
    · exact ⟨_, .head _⟩
    · exact ⟨m, .tail _ (List.mem_append_right _ hm)⟩
/-- the context within a handler -/
abbrev Cx.held (c : Cx) (e tb : Addr) : Cx := ⟨c.prog, c.w, c.S₀, c.A.mark (some (.ref e)), c.env, hc e tb .none ++ c.fr⟩
abbrev Cx.heldX (c : Cx) (e tb : Addr) (ctx : Value) : Cx := ⟨c.prog, c.w, c.S₀, c.A.mark (some (.ref e)), c.env, hc e tb ctx ++ c.fr⟩
theorem FrOk.heldX {c : Cx} (F : FrOk c) (e tb : Addr) (ctx : Value) : FrOk (c.heldX e tb ctx) := by
  obtain ⟨h1, outer, h2, h3⟩ := F
  refine ⟨h1, outer, h2, fun env he => ?_⟩
  obtain ⟨q1, Lk, q2, q3⟩ := h3 env he
  refine ⟨q1, Lk, q2, ?_⟩
  rcases q3 with rfl | ⟨m, hm⟩
  · exact .inl rfl
  · exact .inr ⟨m, List.mem_append_right _ hm⟩

section
variable {c : Cx} {σ σ₁ : AS} {s : Shared} {E : Value → Shared → Prop} {Q : Unit → Shared → Prop} {e tb : Addr} {ctx : Value} {loc : Str → Option AV} {m : List (Addr × ACell)}
theorem funFrames {envs : List Env} (x : c.St σ s) (h : ∀ env ∈ envs, env.scope.kind ≠ .module ∧ ∃ Lk, env.frame = some Lk ∧ (Lk = c.env.locals ∨ ∃ m, (Lk, ACell.ns m) ∈ c.fr)) : s.heap.FunFrames default envs := by
  induction envs with
  | nil => trivial
  | cons env envs ih =>
    obtain ⟨h1, Lk, h2, h3⟩ := h env (.head _)
    have key : ∃ mc, s.heap.Ns Lk mc := by
      rcases h3 with rfl | ⟨m, hm⟩
      · obtain ⟨mc, n, _⟩ := x.ns; exact ⟨mc, n⟩
      · obtain ⟨mc, n, _⟩ := x.mem _ (List.mem_append_right _ hm); exact ⟨mc, n⟩
    obtain ⟨mc, o, es, ep, ho, hd, _⟩ := key
    exact ⟨h1, ⟨Lk, o, h2, rfl, ho, fun vs q => by rw [hd] at q; cases q⟩, ih fun env he => h env (.tail _ he)⟩

theorem note {x : XS} (F : FrOk c) (y : c.St ⟨loc, xc e ctx c.env.locals x ++ m⟩ s)
    (h : ∀ tb s', c.St ⟨loc, xc e ctx c.env.locals (.noted tb) ++ m⟩ s' → Sub (c.fz ⟨loc, xc e ctx c.env.locals x ++ m⟩ s) (c.fz ⟨loc, xc e ctx c.env.locals (.noted tb) ++ m⟩ s') → Q () s') : c.wp (noteFrame (.ref e) c.env) Q E s := by
  cases x with
  | noted tb =>
    obtain ⟨oe, he, _, vs, hd, h1, _⟩ := y.mem _ (List.mem_append_left _ (.head _))
    obtain ⟨ot, ht, tvs, hdt, h3⟩ := y.mem _ (List.mem_append_left _ (.tail _ (.head _)))
    exact wpAny_noteFrame_inFlight F.here he hd h1 ht hdt h3 (h tb s y Sub.rfl)
  | fresh =>
    obtain ⟨oe, he, hcl, vs, hd, h1, h2⟩ := y.mem _ (List.mem_append_left _ (.head _))
    obtain ⟨hf, outer, hfr, hall⟩ := F
    have hsz : 2 < vs.size := (Array.getElem?_eq_some_iff.mp h2).1
    unfold noteFrame
    simp only [hf]
    refine wpAny_bind (wpAny_field he hd h1 ?_)
    rw [if_neg (by decide)]
    refine wpAny_bind (wpAny_frameOf_fun hfr (funFrames y hall) hf fun h₁ hs₁ => ?_)
    obtain ⟨y₁, k₁⟩ := Mine.St.slots y hs₁ (fun b hb => by
      obtain ⟨env, he, hb⟩ := List.mem_filterMap.mp hb
      obtain ⟨_, Lk, h2, h3⟩ := hall env he
      rw [h2] at hb; cases hb
      rcases h3 with rfl | ⟨m, hm⟩
      · exact .inl rfl
      · exact .inr ⟨m, List.mem_append_right _ hm⟩)
    refine wpAny_bind (wpAny_entryPlaceOf fun pl hpl => ?_)
    unfold EntryCells.newEntry newFields
    refine wpAny_bind (wpAny_newObj_type ?_ (hpl.sizeOk5 _ _ _ _ _))
    have ht3 : ([Value.none, .ref c.env.locals, .none, rawInt c.env.locals, .none] ++ (if pl.isEmpty then List.replicate 6 Value.none else pl)).toArray[3]? = some (rawInt c.env.locals) := by
      simp
    obtain ⟨y₂, k₂⟩ := Mine.St.new (s := { s with heap := h₁ }) y₁ (a := h₁.objs.size) (c := .obj (TBO (rawInt c.env.locals))) (h' := h₁.push { cls := .type "traceback", dict := none, data := .fields ([Value.none, .ref c.env.locals, .none, rawInt c.env.locals, .none] ++ (if pl.isEmpty then List.replicate 6 Value.none else pl)).toArray })
      (fun _ _ e => Heap.get?_push_of_some _ e) (fresh_none _) s.toks (fun g hg => ⟨_, Heap.get?_push_size _ rfl, _, rfl, ht3⟩)
    obtain ⟨oe', he', hcl', vs', hd', h1', h2'⟩ := y₂.mem (e, .obj (XO .none ctx)) (.tail _ (List.mem_append_left _ (.head _)))
    have hsz' : 2 < vs'.size := (Array.getElem?_eq_some_iff.mp h2').1
    refine wpAny_setField he' hd' (by (first | lia | omega)) ?_
    obtain ⟨y₃, k₃⟩ := Mine.St.upd y₂ (a := e) (c := .obj (XO .none ctx)) (c' := .obj (XO (.ref h₁.objs.size) ctx)) (.tail .head) (Heap.SameBut.update _ _ (Obj.mapFields (·.setIfInBounds 1 (.ref h₁.objs.size)))) s.toks (fun g hg =>
      ⟨_, Heap.get?_update_self _ he' (Obj.isFreed_of_fields (Obj.data_mapFields hd' _)), (Obj.cls_mapFields ..).trans hcl', vs'.setIfInBounds 1 (.ref h₁.objs.size), Obj.data_mapFields hd' _, by rw [Array.getElem?_setIfInBounds_self_of_lt (by (first | lia | omega))], by
        rw [Array.getElem?_setIfInBounds_ne (by decide)]; exact h2'⟩)
    obtain ⟨y₄, k₄, _⟩ := y₃.perm (m' := (xc e ctx c.env.locals (.noted h₁.objs.size) ++ m) ++ c.fr) (List.Perm.swap _ _ _)
    exact h _ _ y₄ (((k₁.trans k₂).trans k₃).trans k₄)
theorem flight {f f' : Value} {fr : Option Addr} (hf : fr.elim Value.none (fun f => rawInt f) = f') (y : c.St ⟨loc, (e, .obj (XO (.ref tb) ctx)) :: (tb, .obj (TBO f)) :: m⟩ s)
    (h : ∀ s', c.St ⟨loc, (e, .obj (XO (.ref tb) ctx)) :: (tb, .obj (TBO f')) :: m⟩ s' → Sub (c.fz ⟨loc, (e, .obj (XO (.ref tb) ctx)) :: (tb, .obj (TBO f)) :: m⟩ s) (c.fz ⟨loc, (e, .obj (XO (.ref tb) ctx)) :: (tb, .obj (TBO f')) :: m⟩ s') → Q () s') : c.wp (setFlight (.ref e) fr) Q E s := by
  obtain ⟨oe, he, _, vs, hd, h1, _⟩ := y.mem _ (.head _)
  obtain ⟨ot, ht, tvs, hdt, h3⟩ := y.mem _ (.tail _ (.head _))
  have hsz : 3 < tvs.size := (Array.getElem?_eq_some_iff.mp h3).1
  unfold setFlight
  refine wpAny_bind (wpAny_field he hd h1 ?_)
  rw [if_pos (show (Value.ref tb != Value.none) = true from by simp), hf]
  refine wpAny_setField ht hdt hsz ?_
  obtain ⟨y₃, k₃⟩ := Mine.St.upd y (a := tb) (c := .obj (TBO f)) (c' := .obj (TBO f')) (.tail .head) (Heap.SameBut.update _ _ (Obj.mapFields (·.setIfInBounds 3 f'))) s.toks (fun g hg =>
      ⟨_, Heap.get?_update_self _ ht (Obj.isFreed_of_fields (Obj.data_mapFields hdt _)), tvs.setIfInBounds 3 f', Obj.data_mapFields hdt _, by rw [Array.getElem?_setIfInBounds_self_of_lt (by omega)]⟩)
  exact h _ y₃ k₃
theorem cameBack {f : Value} (hfr : c.env.frame = some c.env.locals) (y : c.St ⟨loc, (e, .obj (XO (.ref tb) ctx)) :: (tb, .obj (TBO f)) :: m⟩ s)
    (h : ∀ s', c.St ⟨loc, xc e ctx c.env.locals (.noted tb) ++ m⟩ s' → Sub (c.fz ⟨loc, (e, .obj (XO (.ref tb) ctx)) :: (tb, .obj (TBO f)) :: m⟩ s) (c.fz ⟨loc, xc e ctx c.env.locals (.noted tb) ++ m⟩ s') → E (.ref e) s') : cameBackBy (model c.prog c.w) c.A c.env E (.ref e) s := by
  obtain ⟨oe, he, _, vs, hd, h1, _⟩ := y.mem _ (.head _)
  unfold cameBackBy
  refine wpAny_bind (wpAny_field he hd h1 ?_)
  rw [if_neg (show ¬ ((Value.ref tb == Value.none) = true) from by simp)]
  exact flight (by rw [hfr]; rfl) y h
theorem passed {α : Type} {what : String} {Q : α → Shared → Prop} {f : Value} (hfr : c.env.frame = some c.env.locals) (y : c.St ⟨loc, (e, .obj (XO (.ref tb) ctx)) :: (tb, .obj (TBO f)) :: m⟩ s)
    (h : ∀ s', c.St ⟨loc, xc e ctx c.env.locals (.noted tb) ++ m⟩ s' → Sub (c.fz ⟨loc, (e, .obj (XO (.ref tb) ctx)) :: (tb, .obj (TBO f)) :: m⟩ s) (c.fz ⟨loc, xc e ctx c.env.locals (.noted tb) ++ m⟩ s') → E (.ref e) s') : c.wp (PySem.passOn what (.ref e) c.env : Sem α) Q E s := by
  obtain ⟨oe, he, _, vs, hd, h1, _⟩ := y.mem _ (.head _)
  unfold PySem.passOn
  refine wpAny_bind (wpAny_field he hd h1 ?_)
  rw [if_neg (show ¬ ((Value.ref tb == Value.none) = true) from by simp)]
  exact wpAny_bind (flight (by rw [hfr]; rfl) y fun s' y' k' => wpAny_throw (h s' y' k'))
end
end Mine

end

noncomputable section
open PySem PySem.W PyProof.Rows PySem.Calls
set_option Elab.async false
set_option linter.unusedVariables false
set_option maxRecDepth 100000
namespace Mine

def Cx.Exc (c : Cx) (σ : AS) (s : Shared) (R : Value → AS → Prop) (E : Value → Shared → Prop) : Prop :=
  ∀ e ctx x s' σ', R ctx σ' → c.St ⟨σ'.loc, xc e ctx c.env.locals x ++ σ'.mem⟩ s' → Sub (c.fz σ s) (c.fz ⟨σ'.loc, xc e ctx c.env.locals x ++ σ'.mem⟩ s') → E (.ref e) s'
def Cx.EXR (c : Cx) (ss : List Stmt) (σ : AS) (P : AFl → AS → Prop) (R : Value → AS → Prop) : Prop :=
  ∀ (E : Value → Shared → Prop) (Q : Flow → Shared → Prop) (s : Shared), c.St σ s → (∀ f s' a σ', P a σ' → c.St σ' s' → Sub (c.fz σ s) (c.fz σ' s') → FRel (c.fz σ' s') f a → Q f s') → c.Exc σ s R E → c.wp (execs ss c.env) Q E s
def Cx.E1R (c : Cx) (st : Stmt) (σ : AS) (P : AFl → AS → Prop) (R : Value → AS → Prop) : Prop :=
  ∀ (E : Value → Shared → Prop) (Q : Flow → Shared → Prop) (s : Shared), c.St σ s → (∀ f s' a σ', P a σ' → c.St σ' s' → Sub (c.fz σ s) (c.fz σ' s') → FRel (c.fz σ' s') f a → Q f s') → c.Exc σ s R E → c.wp (exec st c.env) Q E s
def Cx.EVX (c : Cx) (e : Expr) (σ : AS) (R : Value → AS → Prop) : Prop :=
  ∀ (E Q : Value → Shared → Prop) (s : Shared), c.St σ s → c.Exc σ s R E → c.wp (eval e c.env) Q E s
def Cx.TVX (c : Cx) (e : Expr) (σ : AS) (R : Value → AS → Prop) : Prop :=
  ∀ (E : Value → Shared → Prop) (Q : Bool → Shared → Prop) (s : Shared), c.St σ s → c.Exc σ s R E → c.wp (isTrue e c.env (eval e c.env)) Q E s
def Cx.ThenR (c : Cx) (rest : List Stmt) (P : AFl → AS → Prop) (R : Value → AS → Prop) : AFl → AS → Prop
  | .next, σ => c.EXR rest σ P R
  | a, σ => P a σ
def HdOk (c : Cx) : Prop := c.A.handled = none ∨ ∃ x tb, c.A.handled = some (.ref x) ∧ (x, ACell.obj (XO tb .none)) ∈ c.fr

section
variable {c : Cx} {σ σ₁ σ₂ : AS} {P : AFl → AS → Prop} {R : Value → AS → Prop} {rest : List Stmt}
theorem Exc.mono {s s₁ : Shared} {E : Value → Shared → Prop} (h : c.Exc σ s R E) (k : Sub (c.fz σ s) (c.fz σ₁ s₁)) : c.Exc σ₁ s₁ R E := fun e ctx x s' σ' hr y q => h e ctx x s' σ' hr y (k.trans q)
theorem HdOk.hok {s : Shared} (h : HdOk c) (y : c.St σ s) : HOk c.A s.heap := by
  rcases h with h | ⟨x, tb, h1, h2⟩
  · exact .inl h
  · obtain ⟨o, ho, _, vs, hd, _, h2⟩ := y.mem _ (List.mem_append_right _ h2)
    exact .inr ⟨x, o, vs, h1, ho, hd, h2⟩
theorem EXR_nil (h : P .next σ) : c.EXR [] σ P R := fun E Q s x hq _ => wpAny_execs_nil (hq _ _ _ _ h x Sub.rfl trivial)
theorem EXR_cons {st : Stmt} (h : c.E1R st σ (c.ThenR rest P R) R) : c.EXR (st :: rest) σ P R := fun E Q s x hq hx =>
  wpAny_execs_cons (h _ _ s x (fun f s' a σ' hp x' k' r' => by
    cases a with
    | next =>
      obtain rfl := r'.next
      exact hp _ _ s' x' (fun f s₂ a₂ σ₂ hp₂ x₂ k₂ r₂ => hq f s₂ a₂ σ₂ hp₂ x₂ (k'.trans k₂) r₂) (Exc.mono hx k')
    | brk => obtain rfl := r'.brk; exact hq _ _ _ _ hp x' k' r'
    | cont => obtain rfl := r'.cont; exact hq _ _ _ _ hp x' k' r'
    | ret d => obtain ⟨v, rfl, r⟩ := r'.ret; exact hq _ _ _ _ hp x' k' r') hx)
theorem E1R_of {st : Stmt} (h : c.E1 st σ P) : c.E1R st σ P R := fun E Q s x hq _ => h E Q s x hq
theorem E1_assign {x : Str} {p p' : Pos} {e : Expr} {d : AV} (he : c.EV e σ d σ₁) (hr : P .next (σ₁.set x d)) (hk : c.env.scope.kind = .function := by rfl) (hl : c.env.kindOf x = some .local := by rfl)
    (hs : swapsWith e (some (.Name x p')) p.line c.env = pure false := by rfl) : c.E1 (.Assign [.Name x p'] e p) σ P := fun E Q s y hq =>
  wpAny_Assign_Name (he _ _ s y fun v s₁ y₁ k₁ r₁ => store_local y₁ r₁ (fun s₂ y₂ k₂ => hq .next _ .next _ hr y₂ (k₁.trans k₂) trivial) hk hl) hs
theorem E1_augAdd {x : Str} {p p' : Pos} {e : Expr} {i j : Int} (hx : σ.loc x = some (.int i)) (he : c.EV e σ (.int j) σ) (hr : P .next (σ.set x (.int (i + j)))) (hk : c.env.scope.kind = .function := by rfl) (hl : c.env.kindOf x = some .local := by rfl) :
    c.E1 (.AugAssign (.Name x p') .Add e p) σ P := fun E Q s y hq => by
  obtain ⟨mc, hn, hrel⟩ := y.ns
  obtain ⟨v, hm, r⟩ := hrel x _ hx
  obtain ⟨t, rfl⟩ := r.int
  refine wpAny_AugAssign_Name (wpAny_loadName_local hk hl hn hm (he _ _ s y fun v s₁ y₁ k₁ r₁ => ?_))
  obtain ⟨t', rfl⟩ := r₁.int
  exact iadd_int (store_local (y₁.toks _) (VRel.mkInt ..) (fun s₂ y₂ k₂ => hq .next _ .next _ hr y₂ (k₁.trans k₂) trivial) hk hl)
theorem E1_expr {e : Expr} {p : Pos} (he : c.EV e σ .none σ₁) (hr : P .next σ₁) (hi : interactive c.env = false := by rfl) (hs : swapsWith e none p.line c.env = pure false := by rfl) : c.E1 (.Expr e p) σ P := fun E Q s y hq =>
  wpAny_Expr (he _ _ s y fun v s₁ y₁ k₁ r₁ => by
    obtain rfl := r₁.none
    exact hq _ _ .next _ hr y₁ k₁ trivial) hi hs
theorem E1_while0 {t : Expr} {body : List Stmt} {p : Pos} (ht : c.TV t σ false σ₁) (hp : P .next σ₁) : c.E1 (.While t body [] p) σ P := fun E Q s y hq =>
  wpAny_While (codeAny_whileLoop (fun n s' => s' = s) (fun n s' e => by
    subst e
    refine ht _ _ _ y fun s₁ y₁ k₁ => ?_
    rw [if_neg (by decide)]
    exact wpAny_execs_nil (hq _ _ .next _ hp y₁ k₁ trivial)) 0 rfl)
theorem E1R_if {t : Expr} {a b : List Stmt} {p : Pos} {v : Bool} (ht : c.TV t σ v σ₁) (h1 : v = true → c.EXR a σ₁ P R) (h2 : v = false → c.EXR b σ₁ P R) : c.E1R (.If t a b p) σ P R := fun E Q s y hq hx =>
  wpAny_If (ht _ _ s y fun s₁ y₁ k₁ => by
    cases v with
    | true => rw [if_pos rfl]; exact h1 rfl _ _ s₁ y₁ (fun f s₂ a σ₂ hp y₂ k₂ r₂ => hq f s₂ a σ₂ hp y₂ (k₁.trans k₂) r₂) (Exc.mono hx k₁)
    | false => rw [if_neg (by decide)]; exact h2 rfl _ _ s₁ y₁ (fun f s₂ a σ₂ hp y₂ k₂ r₂ => hq f s₂ a σ₂ hp y₂ (k₁.trans k₂) r₂) (Exc.mono hx k₁))

-- what raises
theorem EVX_sub {value slice : Expr} {p : Pos} {ds : List PyData} {k : Int} (H : HdOk c) (hv : c.EV value σ (.dat (.list ds)) σ) (hs : c.EV slice σ (.int k) σ) (hout : (ds.length : Int) ≤ k) (hk : k < 2 ^ 63) (hr : R (hctx c.A) σ)
    (hs' : ∀ a u, subscripted slice false (.ref a) (.int k u) = operate [.ref a, .int k u] (getItem (.ref a) (.int k u)) := by intro _ _; with_unfolding_all rfl) : c.EVX (.Subscript value slice p) σ R := fun E Q s x hx =>
  Subscript_ (hv _ _ s x fun v s₁ x₁ k₁ r₁ => hs _ _ s₁ x₁ fun u s₂ x₂ k₂ r₂ => by
    obtain ⟨as, r⟩ := r₁.mono k₂; obtain ⟨t, rfl⟩ := r₂.int
    cases r with
    | @list a o vs n _ as h1 h2 h3 h4 =>
      have hl : s₂.heap.IsList a vs := ⟨o, x₂.sub_heap _ _ h1, h2, n, h3⟩
      have hlen := VRels.length (VRels.of_reads h4)
      rw [List.length_map] at hlen
      have hsz : vs.size = ds.length := by rw [← hlen]; simp
      refine tail_any hl.typeIs slot_list_getitem.lookup (getItem_outH (H.hok x₂) hl (by rw [hsz]; exact hout) hk fun h' tk e hn => ?_) (hs' a t)
      obtain ⟨ob, tt, he, hc', hd⟩ := hn.there
      obtain ⟨y, q⟩ := Mine.St.new x₂ (a := e) (c := .obj (XO .none (hctx c.A))) hn.keeps hn.new tk (fun g hg => ⟨ob, he, hc', _, hd, rfl, rfl⟩)
      exact hx e _ .fresh _ σ hr y ((k₁.trans k₂).trans q))
theorem TVX_cmp {l r : Expr} {op : CmpOp} {p : Pos} (hl : c.EVX l σ R) (hm : behindInMarks op r = false := by with_unfolding_all rfl) : c.TVX (.Compare l [op] [r] p) σ R := fun E Q s x hx =>
  wpAny_isTrue_Compare1 (hl _ _ s x hx) hm
theorem E1R_assignX {x : Str} {p p' : Pos} {e : Expr} (he : c.EVX e σ R) (hs : swapsWith e (some (.Name x p')) p.line c.env = pure false := by rfl) : c.E1R (.Assign [.Name x p'] e p) σ P R := fun E Q s y hq hx =>
  wpAny_Assign_Name (he _ _ s y hx) hs
theorem E1R_whileX {t : Expr} {body : List Stmt} {p : Pos} (F : FrOk c) (ht : c.TVX t σ R) : c.E1R (.While t body [] p) σ P R := fun E Q s y hq hx =>
  wpAny_While (codeAny_whileLoop (fun n s' => s' = s) (fun n s' e => by
    subst e
    refine ht _ _ _ y fun e ctx x s' σ' hr y' k' => ?_
    exact note F y' fun tb s₂ y₂ k₂ => cameBack F.here y₂ fun s₃ y₃ k₃ => hx _ _ _ _ _ hr y₃ ((k'.trans k₂).trans k₃)) 0 rfl)

/-- back from the handler's context -/
theorem unheld {e tb : Addr} {ctx : Value} {s : Shared} (y : (c.heldX e tb ctx).St σ s) : c.St σ s ∧ Sub ((c.heldX e tb ctx).fz σ s) (c.fz σ s) :=
  Mine.St.less y (σ' := c.all σ) ((List.Sublist.refl _).append (List.sublist_append_right _ _)) (fun _ _ e => e)
theorem hold {e tb : Addr} {ctx : Value} {s : Shared} (y : c.St ⟨σ.loc, hc e tb ctx ++ σ.mem⟩ s) : (c.heldX e tb ctx).St σ s ∧ Sub (c.fz ⟨σ.loc, hc e tb ctx ++ σ.mem⟩ s) ((c.heldX e tb ctx).fz σ s) := by
  have hp : ((hc e tb ctx ++ σ.mem) ++ c.fr).Perm (σ.mem ++ (hc e tb ctx ++ c.fr)) := by
    rw [← List.append_assoc]
    exact List.perm_append_comm.append_right _
  obtain ⟨a, b, _⟩ := Mine.St.perm y hp
  exact ⟨a, b⟩
theorem unhold {e tb : Addr} {ctx : Value} {s : Shared} (y : (c.heldX e tb ctx).St σ s) : c.St ⟨σ.loc, hc e tb ctx ++ σ.mem⟩ s ∧ Sub ((c.heldX e tb ctx).fz σ s) (c.fz ⟨σ.loc, hc e tb ctx ++ σ.mem⟩ s) := by
  have hp : (σ.mem ++ (hc e tb ctx ++ c.fr)).Perm ((hc e tb ctx ++ σ.mem) ++ c.fr) := by
    rw [← List.append_assoc]
    exact List.perm_append_comm.append_right _
  obtain ⟨a, b, _⟩ := Mine.St.perm y hp
  exact ⟨a, b⟩

/-- try: … except IndexError: … -/
theorem EX_tryX {mg mb : Str → Option Value} {body suite : List Stmt} {b₀ : Stmt} {np hp' p : Pos} (G : Gd c.S₀ mg mb) (F : FrOk c) (hb : c.EXR body σ (c.Then rest P) R)
    (hc' : ∀ e tb ctx σ', R ctx σ' → (c.heldX e tb ctx).EX (b₀ :: suite) σ' (c.Then rest P))
    (hg : c.env.globals = mainGlobals := by rfl) (hbl : c.env.builtins = builtinsNs := by rfl) (hk : c.env.scope.kind = .function := by rfl) (hl : c.env.kindOf "IndexError" = some .globalImplicit := by rfl) :
    c.EX (.Try body [.ExceptHandler (some (.Name "IndexError" np)) none (b₀ :: suite) hp'] [] [] p :: rest) σ P := EX_cons fun E Q s y hq =>
  wpAny_Try_except (hb _ _ s y (fun f s' a σ' hp y' k' r' => by
    cases a with
    | next => obtain rfl := r'.next; exact wpAny_execs_nil (hq _ _ .next _ hp y' k' trivial)
    | brk => obtain rfl := r'.brk; exact hq _ _ .brk _ hp y' k' trivial
    | cont => obtain rfl := r'.cont; exact hq _ _ .cont _ hp y' k' trivial
    | ret d => obtain ⟨v, rfl, r⟩ := r'.ret; exact hq _ _ (.ret d) _ hp y' k' r)
   (fun e ctx x s₁ σ₁ hr y₁ k₁ => by
    refine note F y₁ fun tb s₂ y₂ k₂ => ?_
    refine flight (f' := .none) rfl y₂ fun s₃ y₃ k₃ => ?_
    obtain ⟨y₄, k₄⟩ := hold (σ := σ₁) y₃
    refine wpAny_handleBy_builtin (X := "IndexError") (T := "IndexError") (b := true) PySem.F.isExc_IndexError PySem.F.notTuple_IndexError (by rw [isSubtype_type]; kernel_rfl) ?_
    refine EV_bl (c := c.heldX e tb ctx) (σ := σ₁) (x := "IndexError") (v := .type "IndexError") G rfl hg hbl hk hl (by decide) _ _ s₃ y₄ fun v s₅ y₅ k₅ r₅ => ?_
    obtain rfl : v = .type "IndexError" := r₅
    obtain ⟨oe, he, hcl, _⟩ := y₅.mem (e, .obj (XO (.ref tb) ctx)) (List.mem_append_right _ (.head _))
    refine ⟨rfl, ⟨oe, he, hcl⟩, ?_⟩
    rw [if_pos rfl]
    obtain ⟨y₆, k₆⟩ := unhold (σ := σ₁) y₅
    refine flight (c := ⟨c.prog, c.w, c.S₀, c.A.mark (some (.ref e)), c.env, c.fr⟩) (f' := .none) rfl y₆ fun s₇ y₇ k₇ => ?_
    obtain ⟨y₈, k₈⟩ := hold (c := c) (σ := σ₁) y₇
    have kk := ((((((k₁.trans k₂).trans k₃).trans k₄).trans k₅).trans k₆).trans k₇).trans k₈
    refine hc' e tb ctx σ₁ hr _ _ s₇ y₈ fun f s₉ a σ₉ hp y₉ k₉ r₉ => ?_
    obtain ⟨y₁₀, k₁₀⟩ := unheld y₉
    exact hq f _ a _ hp y₁₀ ((kk.trans k₉).trans k₁₀) (r₉.mono k₁₀)))
/-- try: … finally: …, the body without a jump -/
theorem E1R_finally {body fs : List Stmt} {f₀ : Stmt} {p : Pos} {P₁ : AS → Prop} {R₁ : AS → Prop} (F : FrOk c) (hb : c.EXR body σ (fun a σ' => a = .next ∧ P₁ σ') (fun ctx σ' => ctx = .none ∧ R₁ σ'))
    (h1 : ∀ σ', P₁ σ' → c.EXR (f₀ :: fs) σ' (fun a σ'' => a = .next ∧ P .next σ'') R)
    (h2 : ∀ e tb σ', R₁ σ' → (c.heldX e tb .none).EXR (f₀ :: fs) σ' (fun a σ'' => a = .next ∧ R .none σ'') (fun ctx σ'' => R ctx σ'')) : c.E1R (.Try body [] [] (f₀ :: fs) p) σ P R := fun E Q s y hq hx =>
  wpAny_Try_finally (hb _ _ s y (fun f s' a σ' hp y' k' r' => by
    obtain ⟨rfl, hp⟩ := hp
    obtain rfl := r'.next
    refine wpAny_execs_nil ?_
    refine h1 σ' hp _ _ s' y' (fun f s₂ a σ₂ hp₂ y₂ k₂ r₂ => ?_) (fun e ctx x s₂ σ₂ hr₂ y₂ k₂ => ?_)
    · obtain ⟨rfl, hp₂⟩ := hp₂
      obtain rfl := r₂.next
      exact hq _ _ .next _ hp₂ y₂ (k'.trans k₂) trivial
    · exact note F y₂ fun tb s₃ y₃ k₃ => cameBack F.here y₃ fun s₄ y₄ k₄ => hx _ _ _ _ _ hr₂ y₄ (((k'.trans k₂).trans k₃).trans k₄))
   (fun e ctx x s₁ σ₁ hr y₁ k₁ => by
    obtain ⟨rfl, hr⟩ := hr
    refine note F y₁ fun tb s₂ y₂ k₂ => ⟨ref_ne_byPass _, ?_⟩
    refine note (x := .noted tb) F y₂ fun tb s₃ y₃ k₃ => ?_
    refine flight (f' := .none) rfl y₃ fun s₄ y₄ k₄ => ?_
    obtain ⟨y₅, k₅⟩ := hold (σ := σ₁) y₄
    have kk := (((k₁.trans k₂).trans k₃).trans k₄).trans k₅
    refine h2 e tb σ₁ hr _ _ s₄ y₅ (fun f s₆ a σ₆ hp₆ y₆ k₆ r₆ => ?_) (fun e₂ ctx₂ x₂ s₆ σ₆ hr₆ y₆ k₆ => ?_)
    · obtain ⟨rfl, hp₆⟩ := hp₆
      obtain rfl := r₆.next
      obtain ⟨y₇, k₇⟩ := unhold y₆
      exact passed F.here y₇ fun s₈ y₈ k₈ => hx _ _ _ _ _ hp₆ y₈ (((kk.trans k₆).trans k₇).trans k₈)
    · refine note (c := c.heldX e tb .none) (F.heldX ..) y₆ fun tb₂ s₇ y₇ k₇ => ?_
      obtain ⟨y₈, k₈⟩ := unheld y₇
      exact cameBack F.here y₈ fun s₉ y₉ k₉ => hx _ _ _ _ _ hr₆ y₉ ((((kk.trans k₆).trans k₇).trans k₈).trans k₉)))
end
end Mine

end

noncomputable section
open PySem PySem.W PyProof.Rows PySem.Calls
set_option Elab.async false
set_option linter.unusedVariables false
set_option maxRecDepth 100000
namespace Mine

theorem tuple_gtInts (l b : Addr) (items items2 : Array Value) (n n2 : Nat) (dd dd2 : Option Addr) (sl sl2 : Array (Option Value)) (xs ys : List Int) (hx : IntsAre items.toList xs) (hy : IntsAre items2.toList ys) :
    Meets (Builtin.«tuple.__gt__» ⟨[.ref l, .ref b], []⟩)
      (fun A R s => s.heap.get? l = some { cls := .type "tuple", dict := dd, data := .seq items n, slots := sl } ∧ s.heap.get? b = some { cls := .type "tuple", dict := dd2, data := .seq items2 n2, slots := sl2 } ∧
        R (.ok (.ret (.bool (ltInts ys xs)))) s) :=
  .of_wp fun prog w A R s h => by
    obtain ⟨hp, g, d, tk, os⟩ := s; obtain ⟨hl, hb, h⟩ := h
    have f2 := AutoSeq1.sub_tuple_tuple
    have hszs : Builtin.Tuple.tupleCompareSizes .Gt items.size items2.size = .bool (decide (ys.length < xs.length)) := by
      have e1 : items.size = xs.length := by have := hx.length; simpa using this
      have e2 : items2.size = ys.length := by have := hy.length; simpa using this
      rw [e1, e2]; simp [Builtin.Tuple.tupleCompareSizes]
    wp_walk using wpAny_loadPart' hl, wpAny_loadPart' hb, wpAny_forIn_list _ (fun rest b s' => b.1 = none ∧ s' = ⟨hp, g, d, tk, os⟩ ∧ ∃ vs ws as bs, IntsAre vs as ∧ IntsAre ws bs ∧ rest = vs.zip ws ∧
      ltInts ys xs = ltInts bs as ∧ (xs.length : Int) - ys.length = as.length - bs.length) _
    case turn =>
      rintro ⟨y, x⟩ rest b s' ⟨hb', rfl, vs, ws, as, bs, ha, hbs, hz, he, hlen⟩
      cases ha with
      | nil => cases hz
      | @cons i t vs as ha =>
        cases hbs with
        | nil => cases hz
        | @cons j u ws bs hbs =>
          rw [List.zip_cons_cons] at hz
          injection hz with h1 h2
          injection h1 with h1 h3
          subst h1 h3
          refine wpAny_bind (wpAny_eqBool_int ?_)
          rw [ltInts] at he
          by_cases hij : i = j
          · rw [if_pos hij.symm] at he
            simp only [hij, beq_self_eq_true]
            wp_walk
            exact ⟨rfl, rfl, vs, ws, as, bs, ha, hbs, h2, he, by simp only [List.length_cons] at hlen; (first | lia | omega)⟩
          · rw [if_neg (Ne.symm hij)] at he
            have : (i == j) = false := by simpa using hij
            simp only [this]
            rw [he] at h
            refine wpAny_ite ?_
            rw [if_pos (by rfl)]
            refine wpAny_bind (wpAny_rule (wpAny_bind (gt_int (wpAny_bind (wpAny_pure (wpAny_pure ?_))))))
            exact wpAny_pure ⟨_, rfl, h⟩
    case fin =>
      rintro ⟨b1, b2⟩ s' ⟨hb', rfl, vs, ws, as, bs, ha, hbs, hz, he, hlen⟩
      simp only at hb'
      subst hb'
      have hr : ltInts ys xs = decide (ys.length < xs.length) := by
        rw [he]
        cases ha with
        | nil =>
          cases hbs with
          | nil => simp only [ltInts]; simp only [List.length_nil] at hlen; simp; (first | lia | omega)
          | cons j u hbs => simp only [ltInts]; simp only [List.length_nil, List.length_cons] at hlen; simp; (first | lia | omega)
        | cons i t ha =>
          cases hbs with
          | nil => simp only [ltInts]; simp only [List.length_nil, List.length_cons] at hlen; simp; (first | lia | omega)
          | cons j u hbs => cases hz
      wp_walk
      rw [hszs, ← hr]
      exact ⟨_, rfl, h⟩
    case h =>
      exact ⟨rfl, rfl, _, _, xs, ys, hx, hy, rfl, rfl, rfl⟩

/-- what a slice picks -/
def pick {α : Type} (l : List α) (lo hi st : Option Int) : List α := (sliceRange (sliceBounds lo hi st l.length).1 (sliceBounds lo hi st l.length).2.1 (sliceBounds lo hi st l.length).2.2).filterMap (l[·]?)
theorem pick_from {α : Type} (l : List α) (a : Nat) : ∀ m, a + m ≤ l.length → ((List.range m).map (a + ·)).filterMap (l[·]?) = (l.drop a).take m
  | 0, _ => by simp
  | m + 1, h => by
    rw [List.range_succ, List.map_append, List.filterMap_append, pick_from l a m (by (first | lia | omega)), List.take_add_one]
    simp only [List.map_cons, List.map_nil, List.filterMap_cons, List.filterMap_nil, List.getElem?_drop]
    cases l[a + m]? <;> rfl
theorem pick_drop {α : Type} (l : List α) (k : Nat) : pick l (some (k : Int)) none none = l.drop k := by
  unfold pick
  rw [sliceBounds_plain]
  simp only [Option.elim, clipAt_nat]
  have e : sliceRange ((min k l.length : Nat) : Int) (l.length : Int) 1 = (List.range (l.length - min k l.length)).map (min k l.length + ·) := by
    unfold sliceRange
    simp only [show ((1 : Int) > 0) = True from by simp, if_true]
    by_cases hk : k < l.length
    · rw [if_pos (by (first | lia | omega))]
      have : (((l.length : Int) - ((min k l.length : Nat) : Int) + 1 - 1) / 1).toNat = l.length - min k l.length := by simp only [Int.ediv_one]; (first | lia | omega)
      rw [this]
      exact List.map_congr_left fun i _ => by (first | lia | omega)
    · rw [if_neg (by (first | lia | omega))]
      have : l.length - min k l.length = 0 := by (first | lia | omega)
      rw [this]; rfl
  rw [e, pick_from l _ _ (by (first | lia | omega))]
  rcases Nat.le_total k l.length with h | h
  · rw [Nat.min_eq_left h, List.take_of_length_le (by simp)]
  · rw [Nat.min_eq_right h, List.drop_of_length_le (by simp), List.drop_of_length_le (by simpa using h)]; simp
theorem vrels_pick {g : Heap} {vs : List Value} {ds : List AV} (r : VRels g vs ds) : ∀ (is : List Nat), VRels g (is.filterMap (vs[·]?)) (is.filterMap (ds[·]?))
  | [] => trivial
  | i :: is => by
    have hl := r.length
    simp only [List.filterMap_cons]
    cases hd : ds[i]? with
    | none =>
      rw [show vs[i]? = none from by rw [List.getElem?_eq_none_iff] at hd ⊢; (first | lia | omega)]
      exact vrels_pick r is
    | some d =>
      obtain ⟨v, hv, hr⟩ := r.get hd
      rw [hv]
      exact ⟨hr, vrels_pick r is⟩

section
variable {c : Cx} {σ σ₁ σ₂ : AS}
theorem OP_gtTup {xs ys : List Int} (hu : c.A.units < cLine) : c.OP2 (compareOp .Gt) (.ints xs) (.ints ys) σ (.bool (ltInts ys xs)) σ := fun _ _ s v u x r₁ r₂ h => by
  obtain ⟨as, r⟩ := r₁; obtain ⟨bs, r'⟩ := r₂
  cases r with
  | @tuple a o vs n _ as h1 h2 h3 h4 =>
    cases r' with
    | @tuple b o' vs' n' _ bs k1 k2 k3 k4 =>
      have q1 := x.sub_heap _ _ h1
      have q2 := x.sub_heap _ _ k1
      obtain ⟨cl, dd, dt, sl⟩ := o
      obtain ⟨cl', dd', dt', sl'⟩ := o'
      simp only at h2 h3 k2 k3
      subst h2 h3 k2 k3
      show wpAny _ _ (richCompare .Gt (.ref a) (.ref b)) _ _ s
      exact richCompare_meets_room (op := .Gt) ⟨_, q1, rfl⟩ ⟨_, q2, rfl⟩ F.slot_tuple_gt F.entry_tuple_gt (F.args_tuple_gt_2 _ _) (tuple_gtInts a b vs vs' n n' dd dd' sl sl' xs ys (intsAre_of h4) (intsAre_of k4))
        ⟨q1, q2, by simp, h _ _ x Sub.rfl (VRel.mkBool ..)⟩ hu
theorem part_is {v : Value} {o : Option Int} (h : PartIs v o) : IsPart v o := by
  cases o with
  | none => cases h; exact .none
  | some i => obtain ⟨t, rfl⟩ := h; exact .int i t
theorem EV_sliceL {value : Expr} {lower upper step : Option Expr} {p pos : Pos} {ds : List PyData} {lo hi st : Option Int} (hv : c.EV value σ (.dat (.list ds)) σ) (hl : c.EPart lower σ lo) (hu : c.EPart upper σ hi) (hst : c.EPart step σ st) (h0 : st ≠ some 0) (hz : ds.length < 100000)
    (ht : ∀ o r, letTemporaryGo value o r = pure () := by intro _ _; rfl)
    (hs : ∀ l sl, ∃ ops, subscripted (.Slice lower upper step p) false (.ref l) (.ref sl) = operate ops (getItem (.ref l) (.ref sl)) := by intro _ _; exact ⟨_, by with_unfolding_all rfl⟩) :
    c.EV (.Subscript value (.Slice lower upper step p) pos) σ (.dat (.list (pick ds lo hi st))) σ := fun E Q s y hq =>
  Subscript_ (hv _ _ s y fun v s₁ y₁ k₁ r₁ => wpAny_Slice (hl _ _ s₁ y₁ fun vl s₂ y₂ k₂ r₂ => hu _ _ s₂ y₂ fun vu s₃ y₃ k₃ r₃ => hst _ _ s₃ y₃ fun vk s₄ y₄ k₄ r₄ => by
    obtain ⟨as, r⟩ := ((r₁.mono k₂).mono k₃).mono k₄
    cases r with
    | @list a o vs n _ as h1 h2 h3 h4 =>
      have hl : s₄.heap.IsList a vs := ⟨o, y₄.sub_heap _ _ h1, h2, n, h3⟩
      have hlen := VRels.length (VRels.of_reads h4)
      rw [List.length_map] at hlen
      have hsz : vs.size = ds.length := by rw [← hlen]; simp
      obtain ⟨y₅, k₅, _⟩ := Mine.St.frozen y₄ { cls := .type "slice", data := .fields #[vl, vu, vk] } rfl s₄.toks
      obtain ⟨y₆, k₆, g₆⟩ := Mine.St.frozen y₅ { cls := .type "list", data := .seq (slicePick vs lo hi st) } rfl s₄.toks
      refine subscriptTail_ops (Heap.IsList.typeIs (s := { s₄ with heap := s₄.heap.push { cls := .type "slice", data := .fields #[vl, vu, vk] } }) (hl.push _)) list_getitem_lookup
        (wpAny_getItem_list_slice (hl.push _) (Heap.IsSliceOf.new ..) (part_is r₂) (part_is r₃) (part_is r₄) h0 ?_ (by rw [sizeLine_eq]; (first | lia | omega))) (hs _ _).choose_spec (ht _)
      have e : slicePick vs lo hi st = (pick vs.toList lo hi st).toArray := by
        unfold slicePick pick; rw [Array.length_toList]; simp
      have rr : VRels (c.fz σ s₄) (pick vs.toList lo hi st) ((pick ds lo hi st).map .dat) := by
        have := vrels_pick (VRels.of_reads h4) (sliceRange (sliceBounds lo hi st vs.toList.length).1 (sliceBounds lo hi st vs.toList.length).2.1 (sliceBounds lo hi st vs.toList.length).2.2)
        have e2 : ∀ is : List Nat, is.filterMap ((ds.map AV.dat)[·]?) = (is.filterMap (ds[·]?)).map AV.dat := fun is => by
          induction is with
          | nil => rfl
          | cons i is ih => simp only [List.filterMap_cons, List.getElem?_map]; cases ds[i]? <;> simp_all
        rw [e2] at this
        unfold pick
        rw [← hlen]
        exact this
      obtain ⟨bs, rb⟩ := VRels.reads (rr.mono (k₅.trans k₆))
      exact hq _ _ y₆ (((((k₁.trans k₂).trans k₃).trans k₄).trans k₅).trans k₆) ⟨_, .list g₆ rfl rfl (by rw [show (slicePick vs lo hi st).toList = pick vs.toList lo hi st from by rw [e]]; exact rb)⟩))
theorem EP_sliceM {value : Expr} {lower upper step : Option Expr} {p pos : Pos} {ds : List PyData} {lo hi st : Option Int} (hv : c.EV value σ (.dat (.list ds)) σ) (hl : c.EPart lower σ lo) (hu : c.EPart upper σ hi) (hst : c.EPart step σ st) (h0 : st ≠ some 0) (hz : ds.length < 100000)
    (ht : ∀ o r, letTemporaryGo value o r = pure () := by intro _ _; rfl)
    (hs : ∀ l sl, ∃ ops, subscripted (.Slice lower upper step p) false (.ref l) (.ref sl) = operate ops (getItem (.ref l) (.ref sl)) := by intro _ _; exact ⟨_, by with_unfolding_all rfl⟩) :
    c.EP (.Subscript value (.Slice lower upper step p) pos) σ (fun d σ' => ∃ b, d = .raw (.ref b) ∧ σ' = ⟨σ.loc, (b, .list ((pick ds lo hi st).map .dat)) :: σ.mem⟩) := fun E Q s y hq =>
  Subscript_ (hv _ _ s y fun v s₁ y₁ k₁ r₁ => wpAny_Slice (hl _ _ s₁ y₁ fun vl s₂ y₂ k₂ r₂ => hu _ _ s₂ y₂ fun vu s₃ y₃ k₃ r₃ => hst _ _ s₃ y₃ fun vk s₄ y₄ k₄ r₄ => by
    obtain ⟨as, r⟩ := ((r₁.mono k₂).mono k₃).mono k₄
    cases r with
    | @list a o vs n _ as h1 h2 h3 h4 =>
      have hl : s₄.heap.IsList a vs := ⟨o, y₄.sub_heap _ _ h1, h2, n, h3⟩
      have hlen := VRels.length (VRels.of_reads h4)
      rw [List.length_map] at hlen
      have hsz : vs.size = ds.length := by rw [← hlen]; simp
      have e : slicePick vs lo hi st = (pick vs.toList lo hi st).toArray := by
        unfold slicePick pick; rw [Array.length_toList]; simp
      have rr : VRels (c.fz σ s₄) (pick vs.toList lo hi st) ((pick ds lo hi st).map .dat) := by
        have := vrels_pick (VRels.of_reads h4) (sliceRange (sliceBounds lo hi st vs.toList.length).1 (sliceBounds lo hi st vs.toList.length).2.1 (sliceBounds lo hi st vs.toList.length).2.2)
        have e2 : ∀ is : List Nat, is.filterMap ((ds.map AV.dat)[·]?) = (is.filterMap (ds[·]?)).map AV.dat := fun is => by
          induction is with
          | nil => rfl
          | cons i is ih => simp only [List.filterMap_cons, List.getElem?_map]; cases ds[i]? <;> simp_all
        rw [e2] at this
        unfold pick
        rw [← hlen]
        exact this
      obtain ⟨y₅, k₅, _⟩ := Mine.St.frozen y₄ { cls := .type "slice", data := .fields #[vl, vu, vk] } rfl s₄.toks
      obtain ⟨y₆, k₆⟩ := Mine.St.new y₅ (a := (s₄.heap.push { cls := .type "slice", data := .fields #[vl, vu, vk] }).objs.size) (c := .list ((pick ds lo hi st).map .dat)) (h' := (s₄.heap.push { cls := .type "slice", data := .fields #[vl, vu, vk] }).push { cls := .type "list", data := .seq (slicePick vs lo hi st) })
        (fun _ _ e => Heap.get?_push_of_some _ e) (fresh_none _) s₄.toks (fun g hg => ⟨pick vs.toList lo hi st, 0, by rw [← e]; exact Heap.get?_push_size _ rfl, (rr.mono k₅).mono hg⟩)
      refine subscriptTail_ops (Heap.IsList.typeIs (s := { s₄ with heap := s₄.heap.push { cls := .type "slice", data := .fields #[vl, vu, vk] } }) (hl.push _)) list_getitem_lookup
        (wpAny_getItem_list_slice (hl.push _) (Heap.IsSliceOf.new ..) (part_is r₂) (part_is r₃) (part_is r₄) h0 ?_ (by rw [sizeLine_eq]; (first | lia | omega))) (hs _ _).choose_spec (ht _)
      exact hq _ _ _ _ ⟨_, rfl, rfl⟩ y₆ (((((k₁.trans k₂).trans k₃).trans k₄).trans k₅).trans k₆) rfl))
theorem EV_extend {o e : Expr} {apos pos : Pos} {a : Addr} {ds es : List AV} {pl : Sem Bool} {m' : List (Addr × ACell)} (ho : c.EV o σ (.raw (.ref a)) σ) (he : c.EP e σ (fun d σ' => ∃ b, d = .raw (.ref b) ∧ σ' = ⟨σ.loc, (b, .list es) :: σ.mem⟩)) (u : Upd σ.mem a (.list ds) (.list (ds ++ es)) m') (hz : ds.length < 100000) (hz' : es.length < 100000)
    (hb : backTo pos (starEach [e] c.env) = [(false, eval e c.env)] := by rfl)
    (hc : eval (.Call (.Attribute o "extend" apos) [e] [] pos) c.env = (do
      let ov ← eval o c.env
      standAt apos.atName
      let (f, first) ← holding [ov] (getMethod ov "extend" pl)
      callWith pos f first (backTo pos (starEach [e] c.env)) []) := by rfl) : c.EV (.Call (.Attribute o "extend" apos) [e] [] pos) σ .none ⟨σ.loc, m'⟩ := fun E Q s x hq =>
  MethodCall_ (pl := pl) (ho _ _ s x fun v s₁ x₁ k₁ r₁ => by
    obtain rfl : v = .ref a := r₁
    obtain ⟨vs, n, e1, r⟩ := cell_at x₁ u.mem
    refine getMethod_list_of F.slot_list_extend F.type_list_extend (PySem.IsL.isList (n := n) e1) ⟨_, e1, rfl⟩ ?_
    rw [hb]
    refine P.extend_list (he _ _ s₁ x₁ fun v₂ s₂ d₂ σ₂ hp x₂ k₂ r₂ => ?_)
    obtain ⟨b, rfl, rfl⟩ := hp
    obtain rfl : v₂ = .ref b := r₂
    have u' : Upd ((b, ACell.list es) :: σ.mem) a (.list ds) (.list (ds ++ es)) ((b, ACell.list es) :: m') := .tail u
    obtain ⟨vs, n, e2, r⟩ := cell_at x₂ u'.mem
    obtain ⟨ws, nb, e3, r3⟩ := cell_at x₂ (.head _)
    have hl := r.length
    have hl3 := r3.length
    obtain ⟨y, q⟩ := St_setList (f := fun xs => xs ++ ws.toArray) (vs' := vs ++ ws) x₂ u' e2 (by simp) (r.append r3) s₂.toks
    obtain ⟨y', q'⟩ := Mine.St.less y (σ' := c.all ⟨σ.loc, m'⟩) ((List.sublist_cons_self _ _).append_right _) (fun _ _ e => e)
    refine ⟨b, vs.toArray, ws.toArray, n, nb, by rw [sizeLine_eq]; simp only [List.size_toArray]; (first | lia | omega), by rw [sizeLine_eq]; simp only [List.size_toArray]; (first | lia | omega), ?_, rfl, e2, e3, hq _ _ y' (((k₁.trans k₂).trans q).trans q') VRel.mkNone⟩
    have : Builtin.List.listTooLong (vs.toArray.size + ws.toArray.size) = false := by
      unfold Builtin.List.listTooLong
      simp only [List.size_toArray, decide_eq_false_iff_not]
      rw [sizeLine_eq]
      (first | lia | omega)
    rw [this]; simp) hc
end
end Mine

end

noncomputable section
open PySem PySem.W PyProof.Rows PySem.Calls
set_option Elab.async false
set_option linter.unusedVariables false
set_option maxRecDepth 100000
namespace Mine

theorem eqvAll_ints : ∀ a b : List Int, PyData.eqvAll (a.map .int) (b.map .int) = decide (a = b)
  | [], [] => by simp [PyData.eqvAll]
  | [], _ :: _ => by simp [PyData.eqvAll]
  | _ :: _, [] => by simp [PyData.eqvAll]
  | x :: a, y :: b => by
    rw [List.map_cons, List.map_cons, PyData.eqvAll, eqvAll_ints a b]
    show ((x == y) && _) = _
    by_cases h : x = y
    · subst h; simp
    · have : (x == y) = false := by simpa using h
      rw [this]; simp [h]
theorem eqv_ints (a b : List Int) : PyData.eqv (.tuple (a.map .int)) (.tuple (b.map .int)) = decide (a = b) := by
  rw [PyData.eqv]; exact eqvAll_ints a b
/-- pairs as data -/
def tups (zs : List (List Int)) : List PyData := zs.map fun x => .tuple (x.map .int)
theorem tups_get {zs : List (List Int)} {k : Nat} (hk : k < zs.length) : (tups zs)[k]? = some (.tuple ((zs[k]).map .int)) := by simp [tups, hk]
theorem tups_length (zs : List (List Int)) : (tups zs).length = zs.length := by simp [tups]
theorem canLay_tup (x : List Int) : PyData.canLay0 (.tuple (x.map .int)) = true := by rw [PyData.canLay0]; exact canLay_ints x
theorem depth_tup (x : List Int) : PyData.depth (.tuple (x.map .int)) ≤ 1 := by rw [PyData.depth, depth_ints]; decide

def mrgIn (x : List Int) (xs : List (List Int)) (f : List (List Int) → List (List Int) × List (List Int)) : List (List Int) → List (List Int) × List (List Int)
  | [] => (x :: xs, [])
  | y :: ys => if ltInts x y then (x :: (f (y :: ys)).1, (f (y :: ys)).2) else if ltInts y x then ((mrgIn x xs f ys).1, y :: (mrgIn x xs f ys).2) else f ys
def mrg : List (List Int) → List (List Int) → List (List Int) × List (List Int)
  | [] => fun ys => ([], ys)
  | x :: xs => mrgIn x xs (mrg xs)
theorem mrg_no (ys : List (List Int)) : mrg [] ys = ([], ys) := rfl
theorem mrg_nil (xs : List (List Int)) : mrg xs [] = (xs, []) := by cases xs <;> rfl
theorem mrg_cons (x : List Int) (xs : List (List Int)) (y : List Int) (ys : List (List Int)) : mrg (x :: xs) (y :: ys) = if ltInts x y then (x :: (mrg xs (y :: ys)).1, (mrg xs (y :: ys)).2) else if ltInts y x then ((mrg (x :: xs) ys).1, y :: (mrg (x :: xs) ys).2) else mrg xs ys := rfl

section
variable {c : Cx} {σ σ₁ : AS} {P : AFl → AS → Prop} {R : Value → AS → Prop} {rest : List Stmt}
/-- while X[I] == V, where X[I] is no V -/
theorem E1R_skip {X I V : Str} {zs : List (List Int)} {k : Nat} {z : List Int} {p1 p2 p3 p4 p5 p6 : Pos} {body : List Stmt} (F : FrOk c) (H : HdOk c) (hu : c.A.units + 1 < cLine)
    (hX : σ.loc X = some (.dat (.list (tups zs)))) (hI : σ.loc I = some (.int (k : Nat))) (hV : σ.loc V = some (.ints z)) (hnd : ∀ h : k < zs.length, zs[k] ≠ z) (hz : k < 100000)
    (h1 : k < zs.length → P .next σ) (h2 : zs.length ≤ k → R (hctx c.A) σ)
    (hk : c.env.scope.kind = .function := by rfl) (hlX : c.env.kindOf X = some .local := by rfl) (hlI : c.env.kindOf I = some .local := by rfl) (hlV : c.env.kindOf V = some .local := by rfl)
    (hdX : (X == ("__debug__" : Str)) = false := by decide) (hdI : (I == ("__debug__" : Str)) = false := by decide) (hdV : (V == ("__debug__" : Str)) = false := by decide) :
    c.E1R (.While (.Compare (.Subscript (.Name X p1) (.Name I p2) p3) [.Eq] [.Name V p4] p5) body [] p6) σ P R := by
  by_cases hlt : k < zs.length
  · have ht : c.TV (.Compare (.Subscript (.Name X p1) (.Name I p2) p3) [.Eq] [.Name V p4] p5) σ false σ :=
      TV_eq (TV_cmp (EV_sub (EV_local hX hk hlX hdX) (EV_local hI hk hlI hdI) (OP_itemList (by (first | lia | omega)) (by rw [Int.toNat_natCast]; exact tups_get hlt) (by (first | lia | omega)))) (EV_local hV hk hlV hdV)
        (OP_eq (canLay_tup _) (canLay_tup _) (by have := depth_tup zs[k]; (first | lia | omega)))) (by rw [eqv_ints]; simpa using hnd hlt)
    exact E1R_of (E1_while0 ht (h1 hlt))
  · exact E1R_whileX F (TVX_cmp (EVX_sub H (EV_local hX hk hlX hdX) (EV_local hI hk hlI hdI) (by rw [tups_length]; (first | lia | omega)) (by (first | lia | omega)) (h2 (by (first | lia | omega)))))
end

theorem K_sld : FnOk 1 ["expected", "actual"] := ⟨rfl, fun _ _ _ _ _ _ => vals2 fun _ _ => rfl, by decide, by decide, by decide, rfl, rfl, rfl⟩

/-- the state of the loop -/
def sldS (xs ys : List (List Int)) (am au : Addr) (i j : Nat) (m u : List (List Int)) : AS :=
  mk [("expected", .dat (.list (tups xs))), ("actual", .dat (.list (tups ys))), ("i", .int (i : Nat)), ("j", .int (j : Nat)), ("missing", .raw (.ref am)), ("unexpected", .raw (.ref au))]
    [(au, .list (u.map AV.ints)), (am, .list (m.map AV.ints))]
theorem sld_le {xs ys : List (List Int)} {am au : Addr} {i j : Nat} {m u : List (List Int)} {σ : AS} {U M : List AV}
    (h : AllLoc σ [("expected", .dat (.list (tups xs))), ("actual", .dat (.list (tups ys))), ("i", .int (i : Nat)), ("j", .int (j : Nat)), ("missing", .raw (.ref am)), ("unexpected", .raw (.ref au))])
    (hm : σ.mem = [(au, .list U), (am, .list M)]) (hU : U = u.map AV.ints) (hM : M = m.map AV.ints) : Le (sldS xs ys am au i j m u) σ := by
  subst hU hM
  exact Le.mk h (by rw [hm]; exact List.Sublist.refl _)
def Tot (xs ys : List (List Int)) (i j : Nat) (m u : List (List Int)) : Prop :=
  m ++ (mrg (xs.drop i) (ys.drop j)).1 = (mrg xs ys).1 ∧ u ++ (mrg (xs.drop i) (ys.drop j)).2 = (mrg xs ys).2
theorem nodup_next {zs : List (List Int)} (h : zs.Nodup) {k : Nat} (hk : k + 1 < zs.length) : zs[k + 1] ≠ zs[k] := fun e => by
  exact (List.pairwise_iff_getElem.mp h) k (k + 1) (by (first | lia | omega)) hk (by (first | lia | omega)) e.symm

section
variable {c : Cx} {σ : AS} {mg mb : Str → Option Value}
theorem sld_ok (G : Gd c.S₀ mg mb) (hA : AOk c.A 1) (F : FrOk c) {xs ys : List (List Int)} (hx : xs.Nodup) (hy : ys.Nodup) (hxz : xs.length < 1000) (hyz : ys.length < 1000) :
    c.OPs (fun vs => call (.ref 21) vs) [.dat (.list (tups xs)), .dat (.list (tups ys))] σ (.dat (.tuple [.list (tups (mrg xs ys).1), .list (tups (mrg xs ys).2)])) ⟨σ.loc, [] ++ σ.mem⟩ := by
  refine OP_fn (foot := []) (others := σ.mem) K_sld G.toGb (G.fn 1 21 (by simp)) hA.room (List.Perm.refl _) rfl fun L' qual doc pm code ct an => ?_
  have hA1 := hA.in (n := 0) (callEnv (fdOf (pst 1) qual doc pm code ct an) L' 21)
  have F1 := F.in (fdOf (pst 1) qual doc pm code ct an) 21 L' σ.loc σ.mem rfl
  have hu1 : (c.A.deeper (callEnv (fdOf (pst 1) qual doc pm code ct an) L' 21)).units + 1 < cLine := by have := hA1.u; (first | lia | omega)
  refine EX_assign2 EV_int ?_
  refine EX_assignP (EP_listM EVs_nil) ?_
  rintro _ _ ⟨am, rfl, rfl⟩
  refine EX_assignP (EP_listM EVs_nil) ?_
  rintro _ _ ⟨au, rfl, rfl⟩
  refine EX_while (fun n σ' => ∃ i j m u, n = (xs.length - i) + (ys.length - j) ∧ i ≤ xs.length ∧ j ≤ ys.length ∧ m.length ≤ i ∧ u.length ≤ j ∧ Tot xs ys i j m u ∧ σ' = sldS xs ys am au i j m u) ?_ (xs.length - 0 + (ys.length - 0))
    (Le.mk (l := [("expected", .dat (.list (tups xs))), ("actual", .dat (.list (tups ys))), ("i", .int (0 : Nat)), ("j", .int (0 : Nat)), ("missing", .raw (.ref am)), ("unexpected", .raw (.ref au))]) ⟨rfl, rfl, rfl, rfl, rfl, rfl, trivial⟩)
    ⟨0, 0, [], [], rfl, by (first | lia | omega), by (first | lia | omega), by simp, by simp, ⟨by simp, by simp⟩, rfl⟩
  rintro n _ ⟨i, j, m, u, rfl, hi, hj, hml, hul, ⟨ht1, ht2⟩, rfl⟩
  refine ⟨true, _, TV_plain EV_bool TT_bool, fun _ => ?_, fun h => by cases h⟩
  refine EX_tryX (R := fun _ σ' => ∃ i' j' m' u', (xs.length ≤ i' ∨ ys.length ≤ j') ∧ i' < 5000 ∧ j' < 5000 ∧ m'.length < 5000 ∧ u'.length < 5000 ∧ Tot xs ys i' j' m' u' ∧ Le (sldS xs ys am au i' j' m' u') σ') G F1 ?_ ?_
  · have hH : HdOk (c.in (fdOf (pst 1) qual doc pm code ct an) 21 L' ((c.env.locals, .ns σ.loc) :: (σ.mem ++ c.fr))) := .inl hA1.h
    by_cases hix : i < xs.length
    · refine EXR_cons (E1R_of (E1_assign (EV_sub (EV_local rfl) (EV_local rfl) (OP_itemList (by (first | lia | omega)) (by rw [Int.toNat_natCast]; exact tups_get hix) (by (first | lia | omega)))) ?_))
      by_cases hjy : j < ys.length
      · refine EXR_cons (E1R_of (E1_assign (EV_sub (EV_local rfl) (EV_local rfl) (OP_itemList (by (first | lia | omega)) (by rw [Int.toNat_natCast]; exact tups_get hjy) (by (first | lia | omega)))) ?_))
        have hdx : xs.drop i = xs[i] :: xs.drop (i + 1) := List.drop_eq_getElem_cons hix
        have hdy : ys.drop j = ys[j] :: ys.drop (j + 1) := List.drop_eq_getElem_cons hjy
        rw [hdx, hdy, mrg_cons] at ht1 ht2
        refine EXR_cons (E1R_if (TV_cmp (EV_local rfl) (EV_local rfl) (OP_ltTup hA1.units)) (fun hv => ?_) (fun hv => ?_))
        · rw [if_pos hv] at ht1 ht2
          have T : Tot xs ys (i + 1) j (m ++ [xs[i]]) u := ⟨by rw [hdy, ← ht1]; simp, by rw [hdy, ← ht2]⟩
          refine EXR_cons (E1R_of (E1_expr (EV_append (d := .ints xs[i]) (EV_local rfl) (.tail _ (.head _)) (EV_local rfl) (.tail .head) (by simp; (first | lia | omega))) ?_))
          refine EXR_cons (E1R_of (E1_augAdd (i := i) (j := 1) rfl EV_int ?_))
          refine EXR_cons (E1R_skip (zs := xs) (k := i + 1) (z := xs[i]) F1 hH hu1 rfl rfl rfl (fun h => nodup_next hx h) (by (first | lia | omega)) (fun _ => EXR_nil (EXR_nil (EX_nil ?_))) (fun h => ?_))
          · exact ⟨_, _, by (first | lia | omega), ⟨i + 1, j, m ++ [xs[i]], u, rfl, by (first | lia | omega), by (first | lia | omega), by simp; (first | lia | omega), by (first | lia | omega), T, rfl⟩, sld_le ⟨rfl, rfl, rfl, rfl, rfl, rfl, trivial⟩ rfl rfl (by simp)⟩
          · exact ⟨i + 1, j, m ++ [xs[i]], u, .inl h, by (first | lia | omega), by (first | lia | omega), by simp; (first | lia | omega), by (first | lia | omega), T, sld_le ⟨rfl, rfl, rfl, rfl, rfl, rfl, trivial⟩ rfl rfl (by simp)⟩
        · rw [if_neg (by rw [hv]; decide)] at ht1 ht2
          refine EXR_cons (E1R_if (TV_cmp (EV_local rfl) (EV_local rfl) (OP_gtTup hA1.units)) (fun hv => ?_) (fun hv => ?_))
          · rw [if_pos hv] at ht1 ht2
            have T : Tot xs ys i (j + 1) m (u ++ [ys[j]]) := ⟨by rw [hdx, ← ht1], by rw [hdx, ← ht2]; simp⟩
            refine EXR_cons (E1R_of (E1_expr (EV_append (d := .ints ys[j]) (EV_local rfl) (.head _) (EV_local rfl) .head (by simp; (first | lia | omega))) ?_))
            refine EXR_cons (E1R_of (E1_augAdd (i := j) (j := 1) rfl EV_int ?_))
            refine EXR_cons (E1R_skip (zs := ys) (k := j + 1) (z := ys[j]) F1 hH hu1 rfl rfl rfl (fun h => nodup_next hy h) (by (first | lia | omega)) (fun _ => EXR_nil (EXR_nil (EXR_nil (EX_nil ?_)))) (fun h => ?_))
            · exact ⟨_, _, by (first | lia | omega), ⟨i, j + 1, m, u ++ [ys[j]], rfl, by (first | lia | omega), by (first | lia | omega), by (first | lia | omega), by simp; (first | lia | omega), T, rfl⟩, sld_le ⟨rfl, rfl, rfl, rfl, rfl, rfl, trivial⟩ rfl (by simp) rfl⟩
            · exact ⟨i, j + 1, m, u ++ [ys[j]], .inr h, by (first | lia | omega), by (first | lia | omega), by (first | lia | omega), by simp; (first | lia | omega), T, sld_le ⟨rfl, rfl, rfl, rfl, rfl, rfl, trivial⟩ rfl (by simp) rfl⟩
          · rw [if_neg (by rw [hv]; decide)] at ht1 ht2
            have T : Tot xs ys (i + 1) (j + 1) m u := ⟨ht1, ht2⟩
            refine EXR_cons (E1R_of (E1_augAdd (i := i) (j := 1) rfl EV_int ?_))
            refine EXR_cons (E1R_finally (P₁ := fun σ' => i + 1 < xs.length ∧ σ' = _) (R₁ := fun σ' => xs.length ≤ i + 1 ∧ σ' = _) F1 (EXR_cons (E1R_skip (zs := xs) (k := i + 1) (z := xs[i]) F1 hH hu1 rfl rfl rfl (fun h => nodup_next hx h) (by (first | lia | omega)) (fun h => EXR_nil ⟨rfl, h, rfl⟩) (fun h => ⟨by rw [hctx, hA1.h]; rfl, h, rfl⟩))) ?_ ?_)
            · rintro σ' ⟨hlt, rfl⟩
              refine EXR_cons (E1R_of (E1_augAdd (i := j) (j := 1) rfl EV_int ?_))
              refine EXR_cons (E1R_skip (zs := ys) (k := j + 1) (z := ys[j]) F1 hH hu1 rfl rfl rfl (fun h => nodup_next hy h) (by (first | lia | omega)) (fun _ => EXR_nil ⟨rfl, EXR_nil (EXR_nil (EXR_nil (EX_nil ?_)))⟩) (fun h => ?_))
              · exact ⟨_, _, by (first | lia | omega), ⟨i + 1, j + 1, m, u, rfl, by (first | lia | omega), by (first | lia | omega), by (first | lia | omega), by (first | lia | omega), T, rfl⟩, sld_le ⟨rfl, rfl, rfl, rfl, rfl, rfl, trivial⟩ rfl rfl rfl⟩
              · exact ⟨i + 1, j + 1, m, u, .inr h, by (first | lia | omega), by (first | lia | omega), by (first | lia | omega), by (first | lia | omega), T, sld_le ⟨rfl, rfl, rfl, rfl, rfl, rfl, trivial⟩ rfl rfl rfl⟩
            · rintro e tb σ' ⟨hge, rfl⟩
              refine EXR_cons (E1R_of (E1_augAdd (i := j) (j := 1) rfl EV_int ?_))
              refine EXR_cons (E1R_skip (zs := ys) (k := j + 1) (z := ys[j]) (F1.heldX ..) (.inr ⟨e, _, rfl, .head _⟩) hu1 rfl rfl rfl (fun h => nodup_next hy h) (by (first | lia | omega)) (fun _ => EXR_nil ⟨rfl, ?_⟩) (fun h => ?_))
              · exact ⟨i + 1, j + 1, m, u, .inl hge, by (first | lia | omega), by (first | lia | omega), by (first | lia | omega), by (first | lia | omega), T, sld_le ⟨rfl, rfl, rfl, rfl, rfl, rfl, trivial⟩ rfl rfl rfl⟩
              · exact ⟨i + 1, j + 1, m, u, .inl hge, by (first | lia | omega), by (first | lia | omega), by (first | lia | omega), by (first | lia | omega), T, sld_le ⟨rfl, rfl, rfl, rfl, rfl, rfl, trivial⟩ rfl rfl rfl⟩
      · refine EXR_cons (E1R_assignX (EVX_sub hH (EV_local rfl) (EV_local rfl) (by rw [tups_length]; (first | lia | omega)) (by (first | lia | omega)) ?_))
        exact ⟨i, j, m, u, .inr (by (first | lia | omega)), by (first | lia | omega), by (first | lia | omega), by (first | lia | omega), by (first | lia | omega), ⟨ht1, ht2⟩, Le.mk ⟨rfl, rfl, rfl, rfl, rfl, rfl, trivial⟩⟩
    · refine EXR_cons (E1R_assignX (EVX_sub hH (EV_local rfl) (EV_local rfl) (by rw [tups_length]; (first | lia | omega)) (by (first | lia | omega)) ?_))
      exact ⟨i, j, m, u, .inl (by (first | lia | omega)), by (first | lia | omega), by (first | lia | omega), by (first | lia | omega), by (first | lia | omega), ⟨ht1, ht2⟩, Le.mk ⟨rfl, rfl, rfl, rfl, rfl, rfl, trivial⟩⟩
  · rintro e tb ctx σ' ⟨i', j', m', u', hor, hi', hj', hm', hu', ⟨q1, q2⟩, hle⟩
    refine EX_le hle ?_
    have hz1 : ((pick (tups xs) (some (i' : Int)) none none).map AV.dat).length < 100000 := by rw [pick_drop]; simp [tups_length]; (first | lia | omega)
    have hz2 : ((pick (tups ys) (some (j' : Int)) none none).map AV.dat).length < 100000 := by rw [pick_drop]; simp [tups_length]; (first | lia | omega)
    refine EX_expr (EV_extend (EV_local rfl) (EP_sliceM (EV_local rfl) (EPart_int (EV_local rfl)) EPart_no EPart_no (by simp) (by rw [tups_length]; (first | lia | omega))) (.tail .head) (by simp; (first | lia | omega)) hz1) ?_
    refine EX_expr (EV_extend (EV_local rfl) (EP_sliceM (EV_local rfl) (EPart_int (EV_local rfl)) EPart_no EPart_no (by simp) (by rw [tups_length]; (first | lia | omega))) .head (by simp; (first | lia | omega)) hz2) ?_
    refine EX_brk ?_
    have em : m' ++ xs.drop i' = (mrg xs ys).1 := by
      rw [← q1]
      rcases hor with h | h
      · rw [List.drop_of_length_le h, mrg_no]
      · rw [List.drop_of_length_le h, mrg_nil]
    have eu : u' ++ ys.drop j' = (mrg xs ys).2 := by
      rw [← q2]
      rcases hor with h | h
      · rw [List.drop_of_length_le h, mrg_no]
      · rw [List.drop_of_length_le h, mrg_nil]
    have fm : m'.map AV.ints ++ (pick (tups xs) (some (i' : Int)) none none).map AV.dat = (tups (mrg xs ys).1).map AV.dat := by
      rw [pick_drop, ← em]; simp [tups, List.map_drop]
    have fu : u'.map AV.ints ++ (pick (tups ys) (some (j' : Int)) none none).map AV.dat = (tups (mrg xs ys).2).map AV.dat := by
      rw [pick_drop, ← eu]; simp [tups, List.map_drop]
    refine EX_freeze (a := au) (ds := tups (mrg xs ys).2) (m := [(am, .list ((tups (mrg xs ys).1).map AV.dat))]) [("missing", .raw (.ref am)), ("unexpected", .dat (.list (tups (mrg xs ys).2)))] (by rw [← fm, ← fu]) ⟨.inl rfl, .inr ⟨rfl, rfl⟩, trivial⟩ ?_
    refine EX_freeze (a := am) (ds := tups (mrg xs ys).1) (m := []) [("missing", .dat (.list (tups (mrg xs ys).1))), ("unexpected", .dat (.list (tups (mrg xs ys).2)))] (List.Perm.refl _) ⟨.inr ⟨rfl, rfl⟩, .inl rfl, trivial⟩ ?_
    exact EX_ret (EV_tuple (ds := [.list (tups (mrg xs ys).1), .list (tups (mrg xs ys).2)]) (EVs_cons (EV_local rfl) (EVs_cons (EV_local rfl) EVs_nil))) ⟨rfl, List.nil_sublist _⟩
end
end Mine

end

noncomputable section
open PySem PySem.W PyProof.Rows PySem.Calls
set_option Elab.async false
set_option linter.unusedVariables false
set_option maxRecDepth 100000
namespace Mine

section
variable {S₀ : Shared} {L C : Addr} {s : Shared} {m : List (Addr × ACell)} {loc locC : Str → Option AV}
/-- the names of two blocks change places -/
theorem St.swap (x : St S₀ C ⟨locC, (L, .ns loc) :: m⟩ s) : St S₀ L ⟨loc, (C, .ns locC) :: m⟩ s ∧ Sub (frzS C ⟨locC, (L, .ns loc) :: m⟩ s) (frzS L ⟨loc, (C, .ns locC) :: m⟩ s) := by
  have hp : (dom C ⟨locC, (L, .ns loc) :: m⟩).Perm (dom L ⟨loc, (C, .ns locC) :: m⟩) := List.Perm.swap _ _ _
  have y : Sub (frzS C ⟨locC, (L, .ns loc) :: m⟩ s) (frzS L ⟨loc, (C, .ns locC) :: m⟩ s) := frz_sub fun b o e n => ⟨e, fun hb => n (hp.mem_iff.mpr hb)⟩
  refine ⟨⟨x.rest, x.keep.trans y, hp.nodup_iff.mp x.nodup, ?_, fun p hq => ?_⟩, y⟩
  · obtain ⟨mc, n, r⟩ := x.mem _ List.mem_cons_self
    exact ⟨mc, n, r.mono y⟩
  · rcases List.mem_cons.mp hq with rfl | hq
    · obtain ⟨mc, n, r⟩ := x.ns
      exact ⟨mc, n, r.mono y⟩
    · exact (x.mem p (.tail _ hq)).sub y Sub.rfl
end
theorem upd_mid2 {m : List (Addr × ACell)} {p : Addr × ACell} {a : Addr} {k k' : ACell} {r : List (Addr × ACell)} : Upd (m ++ p :: (a, k) :: r) a k k' (m ++ p :: (a, k') :: r) := by
  induction m with
  | nil => exact .tail .head
  | cons q m ih => exact .tail ih

section
variable {c : Cx} {σ σ₁ σ₂ : AS} {P : AFl → AS → Prop} {rest : List Stmt}
-- names in cells
theorem EV_cell {x : Str} {p : Pos} {a : Addr} {d : AV} (hm : (a, .cell (some d)) ∈ σ.mem) (hc : c.env.cells.lookup x = some a := by rfl) (hk : c.env.scope.kind = .function := by rfl) (hl : c.env.kindOf x = some .cell := by rfl) (hd : (x == ("__debug__" : Str)) = false := by decide) :
    c.EV (.Name x p) σ d σ := fun _ _ s y h => by
  obtain ⟨ob, ov, e, hdt, q⟩ := cell_at y hm
  obtain ⟨v, rfl, r⟩ := q d rfl
  exact wpAny_Name (wpAny_loadName_cell hk hl hc ⟨ob, e, hdt⟩ (h _ _ y Sub.rfl r)) hd
theorem store_cell {x : Str} {a : Addr} {d : AV} {o : Option AV} {m' : List (Addr × ACell)} {E : Value → Shared → Prop} {Q : Unit → Shared → Prop} {s : Shared} {v : Value} (y : c.St σ s) (r : VRel (c.fz σ s) v d) (u : Upd σ.mem a (.cell o) (.cell (some d)) m')
    (h : ∀ s', c.St ⟨σ.loc, m'⟩ s' → Sub (c.fz σ s) (c.fz ⟨σ.loc, m'⟩ s') → Q () s') (hc : c.env.cells.lookup x = some a) (hk : c.env.scope.kind = .function) (hl : c.env.kindOf x = some .cell) : c.wp (storeName c.env x v) Q E s := by
  obtain ⟨ob, ov, e, hdt, q⟩ := cell_at y u.mem
  refine wpAny_storeName_cell hk hl hc ⟨ob, e, hdt⟩ fun h' ⟨ob', e', hd'⟩ hs' => ?_
  obtain ⟨z, k⟩ := Mine.St.upd y (u.append c.fr) hs' s.toks (fun g hg => ⟨ob', _, e', hd', fun d' he => ⟨v, rfl, by cases he; exact r.mono hg⟩⟩)
  exact h _ z k
theorem EX_assignC {x : Str} {a : Addr} {p p' : Pos} {e : Expr} {P₀ : AV → AS → Prop} (he : c.EP e σ P₀) (hr : ∀ d σ', P₀ d σ' → ∃ o m', Upd σ'.mem a (.cell o) (.cell (some d)) m' ∧ c.EX rest ⟨σ'.loc, m'⟩ P) (hc : c.env.cells.lookup x = some a := by rfl) (hk : c.env.scope.kind = .function := by rfl) (hl : c.env.kindOf x = some .cell := by rfl)
    (hs : swapsWith e (some (.Name x p')) p.line c.env = pure false := by rfl) : c.EX (.Assign [.Name x p'] e p :: rest) σ P := EX_cons fun E Q s y hq =>
  wpAny_Assign_Name (he _ _ s y fun v s₁ d σ₁ hp y₁ k₁ r₁ => by
    obtain ⟨o, m', u, hr⟩ := hr d σ₁ hp
    exact store_cell y₁ r₁ u (fun s₂ y₂ k₂ => hq .next _ .next _ hr y₂ (k₁.trans k₂) trivial) hc hk hl) hs
theorem Asg_cell {x : Str} {p : Pos} {a : Addr} {d : AV} {o : Option AV} {m' : List (Addr × ACell)} (u : Upd σ.mem a (.cell o) (.cell (some d)) m') (hc : c.env.cells.lookup x = some a := by rfl) (hk : c.env.scope.kind = .function := by rfl) (hl : c.env.kindOf x = some .cell := by rfl) : c.Asg (.Name x p) d σ ⟨σ.loc, m'⟩ := fun E Q s v y r h =>
  wpAny_assign_Name (store_cell y r u h hc hk hl)

-- comprehensions
abbrev Cx.cc (c : Cx) (scope : Scope) (cl : List (Str × Addr)) (C : Addr) (fr : List (Addr × ACell)) : Cx := ⟨c.prog, c.w, c.S₀, c.A, compEnvC scope cl C c.env, fr⟩
def Cx.TVs (c : Cx) : List Expr → AS → Bool → Prop
  | [], _, b => b = true
  | [t], σ, b => c.TV t σ b σ
  | _, _, _ => False
theorem TVs_run {ifs : List Expr} {b : Bool} {E : Value → Shared → Prop} {Q : Bool → Shared → Prop} {s : Shared} (h : c.TVs ifs σ b) (y : c.St σ s) (hq : ∀ s', c.St σ s' → Sub (c.fz σ s) (c.fz σ s') → Q b s') :
    c.wp (forIn ifs true fun t r => if r = true then do let ok ← isTrue t c.env (eval t c.env); pure (ForInStep.yield ok) else pure (ForInStep.yield r)) Q E s := by
  match ifs, h with
  | [], h => obtain rfl : b = true := h; exact wpAny_tests_nil (hq s y Sub.rfl)
  | [t], h => exact wpAny_tests_one (h _ _ s y hq)
def Cx.CTurn (c : Cx) (ifs : List Expr) (elt : Expr) (σ : AS) : Option AV → Prop
  | none => c.TVs ifs σ false
  | some r => c.TVs ifs σ true ∧ c.EV elt σ r σ

theorem iter_self {src : AV} {k : Nat} {I : Addr} {fr : List (Addr × ACell)} {E : Value → Shared → Prop} {Q : Value → Shared → Prop} {s : Shared} (x : (c.on ((I, .iter src k) :: fr)).St σ s) (h : Q (.ref I) s) : c.wp (pyIter (.ref I)) Q E s := by
  have q := x.mem (I, .iter src k) (List.mem_append_right _ (.head _))
  rcases iter_inv q with ⟨a, b, z, rfl, q⟩ | ⟨l, ds, as, rfl, hr, hit⟩
  · exact wpAny_pyIter_rangeiter q h
  · exact wpAny_pyIter_listiter hit h

/-- how a loop of a comprehension turns -/
def LoopRule (prog : Program) (w : World) (A : Around) (env : Env) (code : Code) (target elt : Expr) (ifs : List Expr) (it acc : Value) : Prop :=
  ∀ (R : Result → Shared → Prop) (s : Shared) (I : Nat → Shared → Prop)
    (_ : ∀ n s, I n s → wpAny (model prog w) A (pyNext it) (fun r s₁ => match r with
      | none => R (.ok .next) s₁
      | some v => wpAny (model prog w) A (assign target env v) (fun _ s₂ =>
          wpAny (model prog w) A (forIn ifs true fun c r => if r = true then do let ok ← isTrue c env (eval c env); pure (ForInStep.yield ok) else pure (ForInStep.yield r)) (fun ok s₃ =>
            if ok = true then wpAny (model prog w) A (eval elt env) (fun x s₄ =>
              wpAny (model prog w) A (call (.builtin "list.append") [acc, x]) (fun _ s₅ => ∃ m, m < n ∧ I m s₅) (notedBy (model prog w) A env fun e s' => R (.error e) s') s₄) (notedBy (model prog w) A env fun e s' => R (.error e) s') s₃
            else ∃ m, m < n ∧ I m s₃) (notedBy (model prog w) A env fun e s' => R (.error e) s') s₂) (notedBy (model prog w) A env fun e s' => R (.error e) s') s₁) (notedBy (model prog w) A env fun e s' => R (.error e) s') s)
    (n : Nat), I n s → codeAny (model prog w) A code R s
theorem loop_one {prog : Program} {w : World} {A : Around} {env : Env} {elt iter : Expr} {x : Str} {px : Pos} {ifs : List Expr} {sc : Scope} {pos : Pos} {it acc : Value} :
    LoopRule prog w A env (.compLoop (.ListComp elt [⟨.Name x px, iter, ifs, 0⟩] sc pos) 0 it acc env) (.Name x px) elt ifs it acc := fun R s I turn n h => codeAny_compLoop_tests I turn n h
theorem compTurn_inner (elt target iter : Expr) (ifs : List Expr) (g : Comprehension) (scope : Scope) (pos : Pos) (it acc : Value) (env : Env) :
    compTurn (.ListComp elt [g, ⟨target, iter, ifs, 0⟩] scope pos) 1 it acc env = (do
      standAt iter.pos
      match ← pyNext it with
      | none => pure (.done .next)
      | some v =>
        letOwnedTupleGo target it v
        assign target env v
        let mut ok := true
        for c in ifs do
          if ok then ok ← isTrue c env (eval c env)
        if ok then
          (do let _ ← call (.builtin "list.append") [acc, ← eval elt env])
        again (.compLoop (.ListComp elt [g, ⟨target, iter, ifs, 0⟩] scope pos) 1 it acc env)) := by rfl
theorem loop_inner {prog : Program} {w : World} {A : Around} {env : Env} {elt iter : Expr} {ifs : List Expr} {x : Str} {px : Pos} {g : Comprehension} {sc : Scope} {pos : Pos} {it acc : Value} :
    LoopRule prog w A env (.compLoop (.ListComp elt [g, ⟨.Name x px, iter, ifs, 0⟩] sc pos) 1 it acc env) (.Name x px) elt ifs it acc := fun R s I turn n h => by
  refine codeAny_loop rfl I (fun n s hI => ?_) n h
  show wpAny _ A ((compTurn (.ListComp elt [g, ⟨.Name x px, iter, ifs, 0⟩] sc pos) 1 it acc env).onRaise (fun x => do noteFrame x env; theTreesLotGoes x)) _ _ s
  refine wpAny_noted ?_
  rw [compTurn_inner]
  refine wpAny_bind (wpAny_standAt (wpAny_bind (wpAny_mono (turn n s hI) (fun r s₁ h₁ => ?_) fun _ _ h' => h')))
  cases r with
  | none => exact wpAny_pure h₁
  | some v =>
    refine wpAny_bind (wpAny_of_eq (a := ()) rfl ?_)
    refine wpAny_bind (wpAny_mono h₁ (fun _ s₂ h₂ => wpAny_bind (wpAny_mono h₂ (fun ok s₃ h₃ => ?_) fun _ _ h' => h')) fun _ _ h' => h')
    cases ok with
    | false => exact wpAny_pure ⟨rfl, h₃⟩
    | true =>
      exact wpAny_bind (wpAny_bind (wpAny_mono h₃ (fun x s₄ h₄ => wpAny_bind (wpAny_mono h₄ (fun _ s₅ h₅ => wpAny_pure (wpAny_pure ⟨rfl, h₅⟩)) fun _ _ h' => h')) fun _ _ h' => h'))

theorem AllLoc.set {σ : AS} {x : Str} {d : AV} : ∀ {l : List (Str × AV)}, AllLoc σ l → (∀ p ∈ l, p.1 ≠ x) → AllLoc (σ.set x d) l
  | [], _, _ => trivial
  | (y, e) :: l, h, hn => ⟨AS.set_other (hn (y, e) (.head _)) h.1, AllLoc.set h.2 fun p hp => hn p (.tail _ hp)⟩
theorem AllLoc.of_le {σ σ' : AS} (h : ∀ y d, σ.loc y = some d → σ'.loc y = some d) : ∀ {l : List (Str × AV)}, AllLoc σ l → AllLoc σ' l
  | [], _ => trivial
  | _ :: _, q => ⟨h _ _ q.1, AllLoc.of_le h q.2⟩

theorem comp_loop {code : Code} {elt : Expr} {x : Str} {px : Pos} {ifs : List Expr} {src : AV} {f : AV → Option AV} {D I : Addr} {m fr : List (Addr × ACell)} {s₀ : Shared} {R : Result → Shared → Prop} {bl : List (Str × AV)} {ds : List AV} (hh : c.A.handled = none)
    (rule : LoopRule c.prog c.w c.A c.env code (.Name x px) elt ifs (.ref I) (.ref D))
    (hlen : (itemsOf src).length < 10000) (hds : ds.length < 10000) (hk : c.env.scope.kind = .function) (hl : c.env.kindOf x = some .local)
    (turn : ∀ fr d, d ∈ itemsOf src → (c.on fr).CTurn ifs elt (mk ((x, d) :: bl) m) (f d))
    {loc : Str → Option AV} (hbl : ∀ p ∈ bl, p.1 ≠ x) (hbb : ∀ d, AllLoc (mk ((x, d) :: bl) m) bl) (hloc : AllLoc ⟨loc, m⟩ bl) (y₀ : (c.on ((I, .iter src 0) :: (D, .list ds) :: fr)).St ⟨loc, m⟩ s₀)
    (h : ∀ s' loc', AllLoc ⟨loc', m⟩ bl → (c.on ((D, .list (ds ++ (itemsOf src).filterMap f)) :: fr)).St ⟨loc', m⟩ s' → Sub ((c.on ((I, .iter src 0) :: (D, .list ds) :: fr)).fz ⟨loc, m⟩ s₀) ((c.on ((D, .list (ds ++ (itemsOf src).filterMap f)) :: fr)).fz ⟨loc', m⟩ s') → R (.ok .next) s') :
    codeAny (model c.prog c.w) c.A code R s₀ := by
  refine rule R s₀ (fun n s => ∃ k loc', n = (itemsOf src).length + 1 - k ∧ k ≤ (itemsOf src).length ∧ AllLoc ⟨loc', m⟩ bl ∧ (c.on ((I, .iter src k) :: (D, .list (ds ++ ((itemsOf src).take k).filterMap f)) :: fr)).St ⟨loc', m⟩ s ∧
      Sub ((c.on ((I, .iter src 0) :: (D, .list ds) :: fr)).fz ⟨loc, m⟩ s₀) ((c.on ((I, .iter src k) :: (D, .list (ds ++ ((itemsOf src).take k).filterMap f)) :: fr)).fz ⟨loc', m⟩ s)) ?_ _ ⟨0, loc, rfl, by (first | lia | omega), hloc, by simpa using y₀, by simp; exact Sub.rfl⟩
  rintro n s ⟨k, loc', rfl, hk', hloc', y, q⟩
  by_cases hlt : k < (itemsOf src).length
  · have hd : (itemsOf src)[k]? = some (itemsOf src)[k] := List.getElem?_eq_getElem hlt
    generalize hdd : (itemsOf src)[k] = d at hd
    have hmem : d ∈ itemsOf src := hdd ▸ List.getElem_mem hlt
    refine next_item y hd fun v s₁ y₁ k₁ r₁ => ?_
    refine Asg_name (c := c.on ((I, .iter src (k + 1)) :: (D, .list (ds ++ ((itemsOf src).take k).filterMap f)) :: fr)) hk hl _ _ s₁ v y₁ r₁ fun s₂ y₂ k₂ => ?_
    obtain ⟨y₃, k₃⟩ := Le.st (σ' := mk ((x, d) :: bl) m) (Le.mk (l := (x, d) :: bl) ⟨AS.set_self, hloc'.set hbl⟩) y₂
    have ht := turn ((I, .iter src (k + 1)) :: (D, .list (ds ++ ((itemsOf src).take k).filterMap f)) :: fr) d hmem
    have htake : (itemsOf src).take (k + 1) = (itemsOf src).take k ++ [d] := by rw [List.take_add_one, hd]; rfl
    cases hf : f d with
    | none =>
      rw [hf] at ht
      refine TVs_run (c := c.on ((I, .iter src (k + 1)) :: (D, .list (ds ++ ((itemsOf src).take k).filterMap f)) :: fr)) ht y₃ fun s₄ y₄ k₄ => ?_
      rw [if_neg (by decide)]
      have e : ((itemsOf src).take (k + 1)).filterMap f = ((itemsOf src).take k).filterMap f := by rw [htake, List.filterMap_append]; simp [hf]
      exact ⟨_, by (first | lia | omega), k + 1, _, rfl, hlt, hbb d, by rw [e]; exact y₄, by rw [e]; exact ((((q.trans k₁).trans k₂).trans k₃).trans k₄)⟩
    | some r =>
      rw [hf] at ht
      refine TVs_run (c := c.on ((I, .iter src (k + 1)) :: (D, .list (ds ++ ((itemsOf src).take k).filterMap f)) :: fr)) ht.1 y₃ fun s₄ y₄ k₄ => ?_
      rw [if_pos rfl]
      refine ht.2 _ _ s₄ y₄ fun v₅ s₅ y₅ k₅ r₅ => ?_
      obtain ⟨vs, nn, e1, rr⟩ := y₅.mem (D, .list (ds ++ ((itemsOf src).take k).filterMap f)) (List.mem_append_right _ (.tail _ (.head _)))
      have hvl := rr.length
      have hfl : (((itemsOf src).take k).filterMap f).length ≤ k := Nat.le_trans (List.length_filterMap_le _ _) (by rw [List.length_take]; (first | lia | omega))
      rw [List.length_append] at hvl
      refine wpAny_list_append_plain ⟨nn, e1⟩ (fun h' ⟨n', e'⟩ hs' => ?_) (by rw [sizeLine_eq]; simp only [List.size_toArray]; (first | lia | omega))
      have e : ds ++ ((itemsOf src).take (k + 1)).filterMap f = (ds ++ ((itemsOf src).take k).filterMap f) ++ [r] := by rw [htake, List.filterMap_append]; simp [hf]
      obtain ⟨y₆, k₆⟩ := Mine.St.upd y₅ (c' := .list ((ds ++ ((itemsOf src).take k).filterMap f) ++ [r])) upd_mid2 hs' s₅.toks (fun g hg => ⟨vs ++ [v₅], n', by rw [e']; simp [W.listOf], (VRels.append (ws := [v₅]) (es := [r]) rr ⟨r₅, trivial⟩).mono hg⟩)
      exact ⟨_, by (first | lia | omega), k + 1, _, rfl, hlt, hbb d, by rw [e]; exact y₆, by rw [e]; exact ((((((q.trans k₁).trans k₂).trans k₃).trans k₄).trans k₅).trans k₆)⟩
  · obtain rfl : k = (itemsOf src).length := by (first | lia | omega)
    refine next_end hh y (Nat.le_refl _) fun s₁ y₁ k₁ => ?_
    rw [List.take_length] at y₁ k₁
    exact h s₁ loc' hloc' y₁ (by rw [List.take_length] at q; exact q.trans k₁)

theorem comp1 {elt iter : Expr} {x : Str} {px : Pos} {ifs : List Expr} {scope : Scope} {cl : List (Str × Addr)} {pos : Pos} {src : AV} {f : AV → Option AV} {use : Option (Value → Sem Unit)} {E Q : Value → Shared → Prop} {s : Shared}
    (hi : c.EV iter σ src σ) (ok : IterOk src) (hh : c.A.handled = none) (hclos : closureFor scope c.env = pure cl) (hcell : ∀ y ∈ scope.names, y.2 ≠ .cell) (hkind : scope.kind = .function)
    (hnames : ∀ y ∈ scope.names, y.2 = .local → scope.names.lookup y.1 = some .local) (hx : scope.names.lookup x = some .local) (hlen : (itemsOf src).length < 10000) (hs : ∀ x, foldedSetIterable iter c.env x = pure x)
    (turn : ∀ C fr d, d ∈ itemsOf src → (c.cc scope cl C fr).CTurn ifs elt (mk [(x, d)] σ.mem) (f d)) (y : c.St σ s)
    (h : ∀ C D s' locC, (c.on ((C, .ns locC) :: c.fr)).St ⟨σ.loc, (D, .list ((itemsOf src).filterMap f)) :: σ.mem⟩ s' → Sub (c.fz σ s) ((c.on ((C, .ns locC) :: c.fr)).fz ⟨σ.loc, (D, .list ((itemsOf src).filterMap f)) :: σ.mem⟩ s') →
      compPost (model c.prog c.w) c.A E use Q (.ref D) C (.ok .next) s') :
    c.wp (comprehension (.ListComp elt [⟨.Name x px, iter, ifs, 0⟩] scope pos) scope c.env (firstIterPos [⟨.Name x px, iter, ifs, 0⟩] pos) (newList []) false (eval iter c.env) use) Q E s := by
  refine wpAny_comprehension_free rfl hs hclos hkind hnames ?_
  refine hi _ _ s y fun v s₁ y₁ k₁ r₁ => ?_
  refine iter_new y₁ r₁ ok fun I s₂ y₂ k₂ => ?_
  refine wpAny_newObj_type ?_
  obtain ⟨y₃, k₃⟩ := Mine.St.new y₂ (a := s₂.heap.objs.size) (c := .list []) (h' := s₂.heap.push { cls := .type "list", data := .seq ([] : List Value).toArray }) (fun _ _ e => Heap.get?_push_of_some _ e) (fresh_none _) s₂.toks
    (fun g hg => ⟨[], 0, Heap.get?_push_size _ rfl, trivial⟩)
  refine wpAny_newFunctionEnv hcell (by intro y hy; simp at hy) (fun h₁ hns₁ hsb₁ => ?_) hkind
  have hsub : Sub (s₂.heap.push { cls := .type "list", data := .seq ([] : List Value).toArray }) h₁ := fun b o e => (hsb₁.2 b (fun q => by rw [q] at e; rw [fresh_none] at e; cases e)).trans (Heap.get?_push_of_some _ e)
  have hp₃ : ((s₂.heap.objs.size, ACell.list []) :: (σ.mem ++ ((I, ACell.iter src 0) :: c.fr))).Perm (σ.mem ++ ((I, .iter src 0) :: (s₂.heap.objs.size, .list []) :: c.fr)) :=
    (List.perm_middle (a := (s₂.heap.objs.size, ACell.list [])) (l₁ := σ.mem ++ [(I, ACell.iter src 0)]) (l₂ := c.fr)).symm.trans (by rw [List.append_assoc]; exact List.Perm.refl _) |> fun z => by
      have e1 : (s₂.heap.objs.size, ACell.list []) :: (σ.mem ++ [(I, ACell.iter src 0)] ++ c.fr) = (s₂.heap.objs.size, ACell.list []) :: (σ.mem ++ ((I, ACell.iter src 0) :: c.fr)) := by rw [List.append_assoc]; rfl
      rw [e1] at z; exact z
  obtain ⟨y₄, k₄, _⟩ := y₃.perm hp₃
  obtain ⟨y₅, k₅⟩ := Mine.St.enter (L' := (s₂.heap.push { cls := .type "list", data := .seq ([] : List Value).toArray }).objs.size) (loc' := fun _ => none) y₄ hsub (fresh_none _) hns₁ (fun _ _ e => by cases e) (s₂.toks + 0)
  have hp₅ : ((c.env.locals, ACell.ns σ.loc) :: (σ.mem ++ ((I, .iter src 0) :: (s₂.heap.objs.size, .list []) :: c.fr))).Perm (σ.mem ++ ((I, .iter src 0) :: (s₂.heap.objs.size, .list []) :: (c.env.locals, .ns σ.loc) :: c.fr)) := by
    have z := (List.perm_middle (a := (c.env.locals, ACell.ns σ.loc)) (l₁ := σ.mem ++ [(I, ACell.iter src 0), (s₂.heap.objs.size, .list [])]) (l₂ := c.fr)).symm
    simpa using z
  obtain ⟨y₆, k₆, _⟩ := y₅.perm hp₅
  have fin : ∀ s₇ : Shared, s₇ = { s₂ with heap := h₁, toks := s₂.toks + ([] : List (Str × Value)).length } → codeAny (model c.prog c.w) c.A (.compLoop (.ListComp elt [⟨.Name x px, iter, ifs, 0⟩] scope pos) 0 (.ref I) (.ref s₂.heap.objs.size) (compEnvC scope cl (s₂.heap.push { cls := .type "list", data := .seq ([] : List Value).toArray }).objs.size c.env))
      (compPost (model c.prog c.w) c.A E use Q (.ref s₂.heap.objs.size) (s₂.heap.push { cls := .type "list", data := .seq ([] : List Value).toArray }).objs.size) s₇ := by
    rintro s₇ rfl
    refine comp_loop (c := c.cc scope cl (s₂.heap.push { cls := .type "list", data := .seq ([] : List Value).toArray }).objs.size c.fr) (fr := (c.env.locals, .ns σ.loc) :: c.fr) (bl := []) (ds := []) hh loop_one hlen (by simp) (by simp [compEnvC, relabel, hkind]) (lookup_relabel_local hx) (fun fr d hd => turn _ fr d hd) (by simp) (fun _ => trivial) trivial y₆ fun s' loc' _ y₈ k₈ => ?_
    have hp₈ : (σ.mem ++ ((s₂.heap.objs.size, ACell.list ((itemsOf src).filterMap f)) :: (c.env.locals, .ns σ.loc) :: c.fr)).Perm ((c.env.locals, .ns σ.loc) :: (((s₂.heap.objs.size, ACell.list ((itemsOf src).filterMap f)) :: σ.mem) ++ c.fr)) := by
      exact (List.perm_middle.trans (List.perm_middle.cons _)).trans (List.Perm.swap _ _ _)
    obtain ⟨y₉, k₉, _⟩ := Mine.St.perm y₈ hp₈
    obtain ⟨y₁₀, k₁₀⟩ := y₉.swap
    obtain ⟨y₁₁, k₁₁, _⟩ := y₁₀.perm (m' := ((s₂.heap.objs.size, ACell.list ((itemsOf src).filterMap f)) :: σ.mem) ++ ((_, .ns loc') :: c.fr)) List.perm_middle.symm
    exact h _ _ s' loc' y₁₁ (((((((((k₁.trans k₂).trans k₃).trans k₄).trans k₅).trans k₆).trans k₈).trans k₉).trans k₁₀).trans k₁₁)
  refine codeAny_compStart_list (fin _ rfl) ?_
  refine iter_self (c := c.cc scope cl (s₂.heap.push { cls := .type "list", data := .seq ([] : List Value).toArray }).objs.size c.fr) (σ := ⟨fun _ => none, σ.mem⟩) (src := src) (k := 0) (I := I) (fr := (s₂.heap.objs.size, .list []) :: (c.env.locals, .ns σ.loc) :: c.fr) y₆ ?_
  exact fin _ rfl

theorem EP_comp {elt iter : Expr} {x : Str} {px : Pos} {ifs : List Expr} {scope : Scope} {cl : List (Str × Addr)} {pos : Pos} {src : AV} (f : AV → Option AV)
    (hi : c.EV iter σ src σ) (ok : IterOk src) (hh : c.A.handled = none) (hlen : (itemsOf src).length < 10000)
    (turn : ∀ C fr d, d ∈ itemsOf src → (c.cc scope cl C fr).CTurn ifs elt (mk [(x, d)] σ.mem) (f d))
    (hclos : closureFor scope c.env = pure cl := by rfl) (hcell : ∀ y ∈ scope.names, y.2 ≠ .cell := by decide) (hkind : scope.kind = .function := by rfl)
    (hnames : ∀ y ∈ scope.names, y.2 = .local → scope.names.lookup y.1 = some .local := by decide) (hx : scope.names.lookup x = some .local := by rfl) (hs : ∀ x, foldedSetIterable iter c.env x = pure x := by intro _; rfl) :
    c.EP (.ListComp elt [⟨.Name x px, iter, ifs, 0⟩] scope pos) σ (fun d σ' => ∃ D, d = .raw (.ref D) ∧ σ' = ⟨σ.loc, (D, .list ((itemsOf src).filterMap f)) :: σ.mem⟩) := fun E Q s y hq => by
  show c.wp (comprehension _ _ _ _ _ _ _ _) Q E s
  refine comp1 (use := none) hi ok hh hclos hcell hkind hnames hx hlen hs turn y fun C D s' locC y' k' => ?_
  obtain ⟨mc, n, _⟩ := y'.mem (C, .ns locC) (List.mem_append_right _ (.head _))
  refine ⟨mc, n, fun h' hs' => ?_⟩
  obtain ⟨y₂, k₂⟩ := Mine.St.lost y' hs'.extBut s'.toks
  exact hq _ _ _ _ ⟨D, rfl, rfl⟩ y₂ (k'.trans k₂) rfl
theorem EX_assignComp {elt iter : Expr} {x y : Str} {px py : Pos} {ifs : List Expr} {scope : Scope} {cl : List (Str × Addr)} {pos spos : Pos} {src : AV} (f : AV → Option AV)
    (hi : c.EV iter σ src σ) (ok : IterOk src) (hh : c.A.handled = none) (hlen : (itemsOf src).length < 10000)
    (turn : ∀ C fr d, d ∈ itemsOf src → (c.cc scope cl C fr).CTurn ifs elt (mk [(x, d)] σ.mem) (f d))
    (hr : ∀ D, c.EX rest (AS.set ⟨σ.loc, (D, .list ((itemsOf src).filterMap f)) :: σ.mem⟩ y (.raw (.ref D))) P)
    (hsw : swapsWith (.ListComp elt [⟨.Name x px, iter, ifs, 0⟩] scope pos) (some (.Name y py)) spos.line c.env = pure true := by rfl)
    (hclos : closureFor scope c.env = pure cl := by rfl) (hcell : ∀ y ∈ scope.names, y.2 ≠ .cell := by decide) (hkind : scope.kind = .function := by rfl)
    (hnames : ∀ y ∈ scope.names, y.2 = .local → scope.names.lookup y.1 = some .local := by decide) (hx : scope.names.lookup x = some .local := by rfl) (hs : ∀ x, foldedSetIterable iter c.env x = pure x := by intro _; rfl)
    (hk : c.env.scope.kind = .function := by rfl) (hl : c.env.kindOf y = some .local := by rfl) :
    c.EX (.Assign [.Name y py] (.ListComp elt [⟨.Name x px, iter, ifs, 0⟩] scope pos) spos :: rest) σ P := EX_cons fun E Q s z hq => by
  show wpAny _ _ _ _ _ _
  rw [exec_Assign_Name_used _ _ _ _ hsw]
  refine wpAny_bind (wpAny_standAt (wpAny_bind ?_))
  show wpAny _ c.A (do let _ ← comprehension (.ListComp elt [⟨.Name x px, iter, ifs, 0⟩] scope pos) scope c.env _ (newList []) false (eval iter c.env) (some (assign (.Name y py) c.env))) _ _ s
  refine wpAny_bind (wpAny_mono (comp1 (use := some (assign (.Name y py) c.env)) (Q := fun _ s' => Q .next s') hi ok hh hclos hcell hkind hnames hx hlen hs turn z fun C D s' locC y' k' => ?_) (fun _ s' hq => wpAny_pure (wpAny_pure hq)) fun _ _ e => e)
  refine Asg_name (c := c.on ((C, .ns locC) :: c.fr)) hk hl _ _ s' (.ref D) y' (d := .raw (.ref D)) rfl fun s₂ y₂ k₂ => ?_
  obtain ⟨mc, n, _⟩ := y₂.mem (C, .ns locC) (List.mem_append_right _ (.head _))
  refine ⟨mc, n, fun h' hs' => ?_⟩
  obtain ⟨y₃, k₃⟩ := Mine.St.lost y₂ hs'.extBut s₂.toks
  exact hq _ _ .next _ (hr D) y₃ ((k'.trans k₂).trans k₃) trivial
end
end Mine

end

noncomputable section
open PySem PySem.W PyProof.Rows PySem.Calls
set_option Elab.async false
set_option linter.unusedVariables false
set_option maxRecDepth 100000
namespace Mine

section
variable {S₀ : Shared} {L L' : Addr} {m news : List (Addr × ACell)} {loc : Str → Option AV} {s : Shared}
/-- a call with cells of its own -/
theorem St.enterN {h₁ : Heap} {mc : Str → Option Value} {loc' : Str → Option AV} (x : St S₀ L ⟨loc, m⟩ s) (k : Sub s.heap h₁) (hf : ∀ b ∈ L' :: news.map Prod.fst, s.heap.get? b = none) (hnd : (L' :: news.map Prod.fst).Nodup) (hn : h₁.Ns L' mc)
    (r : NsRel (frzS L ⟨loc, m⟩ s) mc loc') (hat : ∀ p ∈ news, ∀ g, Sub (frzS L ⟨loc, m⟩ s) g → p.2.At g h₁ p.1) (tk : Nat) :
    St S₀ L' ⟨loc', news ++ (L, .ns loc) :: m⟩ { s with heap := h₁, toks := tk } ∧ Sub (frzS L ⟨loc, m⟩ s) (frzS L' ⟨loc', news ++ (L, .ns loc) :: m⟩ { s with heap := h₁, toks := tk }) := by
  have hdom : dom L' ⟨loc', news ++ (L, .ns loc) :: m⟩ = (L' :: news.map Prod.fst) ++ dom L ⟨loc, m⟩ := by simp [dom]
  have y : Sub (frzS L ⟨loc, m⟩ s) (frzS L' ⟨loc', news ++ (L, .ns loc) :: m⟩ { s with heap := h₁, toks := tk }) := frz_sub fun b o e n => ⟨k b o e, fun hb => by
    rw [hdom] at hb
    rcases List.mem_append.mp hb with hb | hb
    · have := hf b hb
      rw [show s.heap.get? b = some o from e] at this; cases this
    · exact n hb⟩
  refine ⟨⟨by obtain ⟨h, t, rfl⟩ := x.rest; exact ⟨h₁, tk, rfl⟩, x.keep.trans y, ?_, ⟨mc, hn, r.mono y⟩, fun p hp => ?_⟩, y⟩
  · rw [hdom]
    refine List.nodup_append.mpr ⟨hnd, x.nodup, fun a ha b hb e => ?_⟩
    subst e
    obtain ⟨o, e⟩ := x.live _ hb
    rw [hf _ ha] at e; cases e
  · rcases List.mem_append.mp hp with hp | hp
    · exact hat p hp _ y
    · rcases List.mem_cons.mp hp with rfl | hp
      · obtain ⟨mc', n', r'⟩ := x.ns
        exact ⟨mc', n'.keeps k, r'.mono y⟩
      · exact (x.mem p hp).sub y k
end

theorem le4 (a : Nat) : ∀ b : Nat, b ∈ [a, a + 1 + 1 + 1, a + 1 + 1, a + 1] → a ≤ b := by intro b hb; simp at hb; (first | lia | omega)
theorem nd4 (a : Nat) : [a, a + 1 + 1 + 1, a + 1 + 1, a + 1].Nodup := by simp; (first | lia | omega)
abbrev Cx.inC (c : Cx) (fd : FuncData) (a L' : Addr) (fr : List (Addr × ACell)) : Cx := ⟨c.prog, c.w, c.S₀, c.A.deeper (callEnvC fd L' a), callEnvC fd L' a, fr⟩

section
variable {c : Cx} {σ σ₁ σ₂ : AS} {P : AFl → AS → Prop} {rest : List Stmt} {mg mb : Str → Option Value}
theorem parts_call (G : Gd c.S₀ mg mb) (hroom : c.A.depth < recursionLimit) {d₁ d₂ d : AV}
    (h : ∀ L' qual doc pm code ct an, (c.inC (fdOf (pst 19) qual doc pm code ct an) 103 L' ((c.env.locals, .ns σ.loc) :: (σ.mem ++ c.fr))).EX (bodyOf (pst 19)) (mk [("count", d₁), ("ties", d₂)] [(L' + 1 + 1 + 1, .cell none), (L' + 1 + 1, .cell none), (L' + 1, .cell none)]) (fun af σ' => af.val = d)) :
    c.OPs (fun vs => call (.ref 103) vs) [d₁, d₂] σ d ⟨σ.loc, [] ++ σ.mem⟩ := fun E Q s vs x r hq => by
  obtain ⟨_, ⟨qual, doc, pm, code, ct, an, rfl⟩, hF⟩ := G.fn 19 103 (by simp)
  replace r := VRels.two r
  obtain ⟨v₁, v₂, rfl, r₁, r₂⟩ := r
  refine wpAny_call (codeAny_call_cells (fd := fdOf (pst 19) qual doc pm code ct an) (body := bodyOf (pst 19)) (binds := [("count", v₁), ("ties", v₂)]) hroom (x.base _ _ hF.2) rfl (G.nolimit.keeps x.base) (hF.1.keeps x.base) rfl rfl rfl
    (fun y hy => .inl ?_) (fun s₁ hc => ?_) rfl rfl rfl)
  · rcases List.mem_cons.mp hy with rfl | hy
    · rfl
    · rcases List.mem_cons.mp hy with rfl | hy
      · rfl
      · cases hy
  · obtain ⟨⟨h₁, tk, rfl⟩, hns, hkeep, hfresh⟩ := hc.toInCall
    have hcl : ∀ k, [(("new" : Str), s.heap.objs.size + 1 + 1 + 1), ("old", s.heap.objs.size + 1 + 1), ("label", s.heap.objs.size + 1)].lookup k = (callEnvC (fdOf (pst 19) qual doc pm code ct an) s.heap.objs.size 103).cells.lookup k := fun k => rfl
    have none_of : ∀ b, s.heap.objs.size ≤ b → s.heap.get? b = none := fun b hb => by
      cases e : s.heap.get? b with
      | none => rfl
      | some o => exact absurd (Heap.lt_size e) (Nat.not_lt.mpr hb)
    have ic : ∀ n c', [(("new" : Str), s.heap.objs.size + 1 + 1 + 1), ("old", s.heap.objs.size + 1 + 1), ("label", s.heap.objs.size + 1)].lookup n = some c' → h₁.IsCell c' none := fun n c' e => hc.cell n c' ((hcl n).symm.trans e)
    obtain ⟨y₁, k₁⟩ := Mine.St.enterN (L' := s.heap.objs.size) (news := [(s.heap.objs.size + 1 + 1 + 1, .cell none), (s.heap.objs.size + 1 + 1, .cell none), (s.heap.objs.size + 1, .cell none)]) (loc' := fun x => [(("count" : Str), d₁), ("ties", d₂)].lookup x) x hkeep
      (fun b hb => none_of b (le4 _ b hb)) (nd4 _) hns (fun y dd hy => by
        simp only [] at hy
        rw [List.lookup_cons] at hy
        cases h1 : y == ("count" : Str) with
        | true =>
          rw [h1] at hy
          obtain rfl : y = "count" := by simpa using h1
          cases hy
          exact ⟨v₁, rfl, r₁⟩
        | false =>
          rw [h1, List.lookup_cons] at hy
          cases h2 : y == ("ties" : Str) with
          | true =>
            rw [h2] at hy
            obtain rfl : y = "ties" := by simpa using h2
            cases hy
            exact ⟨v₂, rfl, r₂⟩
          | false => rw [h2] at hy; cases hy) (fun p hp g hg => by
        rcases List.mem_cons.mp hp with rfl | hp
        · obtain ⟨o, e1, e2⟩ := ic "new" _ rfl; exact ⟨o, none, e1, e2, fun d e => by cases e⟩
        · rcases List.mem_cons.mp hp with rfl | hp
          · obtain ⟨o, e1, e2⟩ := ic "old" _ rfl; exact ⟨o, none, e1, e2, fun d e => by cases e⟩
          · rcases List.mem_cons.mp hp with rfl | hp
            · obtain ⟨o, e1, e2⟩ := ic "label" _ rfl; exact ⟨o, none, e1, e2, fun d e => by cases e⟩
            · cases hp) tk
    refine h s.heap.objs.size qual doc pm code ct an _ _ _ y₁ fun f s' af σ' hp x' k' r' => ?_
    obtain rfl := hp
    have rv := r'.val
    obtain ⟨y₂, l₂⟩ := Mine.St.less x' (σ' := ⟨σ'.loc, (c.env.locals, .ns σ.loc) :: (σ.mem ++ c.fr)⟩) (List.sublist_append_right _ _) (fun _ _ e => e)
    obtain ⟨y₃, l₃⟩ := y₂.leave
    have key : Q (fval f) s' := hq _ _ y₃ (((k₁.trans k').trans l₂).trans l₃) ((rv.mono l₂).mono l₃)
    cases f <;> exact key

/-- a new list taken as it is -/
theorem EV_freezeP {e : Expr} {ds : List PyData} {P₀ : AV → AS → Prop} (h : c.EP e σ P₀) (hp : ∀ d σ', P₀ d σ' → ∃ D, d = .raw (.ref D) ∧ σ' = ⟨σ.loc, (D, .list (ds.map .dat)) :: σ.mem⟩) : c.EV e σ (.dat (.list ds)) σ := fun E Q s x hq =>
  h _ _ s x fun v s' d σ' hp' x' k' r' => by
    obtain ⟨D, rfl, rfl⟩ := hp d σ' hp'
    obtain rfl : v = .ref D := r'
    obtain ⟨y, k, as, hr⟩ := Mine.St.freeze x' (a := D) (ds := ds) (m := σ.mem ++ c.fr) (loc' := σ.loc) (List.Perm.refl _) (fun _ _ e => .inl e)
    exact hq _ _ y (k'.trans k) ⟨_, hr⟩
end

/-- _law_parts, plainly -/
def relab (lab : List Int) (t : List Int) : List Int := lab.map fun x => if x = lab.getD (t.getD 1 0).toNat 0 then lab.getD (t.getD 0 0).toNat 0 else x
def partsL (count : Nat) (ties : List (List Int)) : List Int := ties.foldl relab ((List.range count).map Int.ofNat)
def partsM (count : Nat) (ties : List (List Int)) : Nat := ((List.range count).filter fun (k : Nat) => (partsL count ties).contains (k : Int)).length
def TiesOk (count : Nat) (ties : List (List Int)) : Prop := ∀ t ∈ ties, ∃ i j : Nat, t = [(i : Int), (j : Int)] ∧ i < count ∧ j < count
theorem relab_length (lab t : List Int) : (relab lab t).length = lab.length := by simp [relab]
theorem foldl_relab_length (ties : List (List Int)) : ∀ lab, (ties.foldl relab lab).length = lab.length := by
  induction ties with
  | nil => intro _; rfl
  | cons t ties ih => intro lab; rw [List.foldl_cons, ih, relab_length]
abbrev AV.li (l : List Int) : AV := .dat (.list (l.map .int))

section
variable {c : Cx} {σ : AS} {mg mb : Str → Option Value}
theorem parts_ok (G : Gd c.S₀ mg mb) (hA : AOk c.A 1) {count : Nat} {ties : List (List Int)} (hc : count ≤ 10) (ht : TiesOk count ties) (hz : ties.length < 1000) :
    c.OPs (fun vs => call (.ref 103) vs) [.int count, .dat (.list (tups ties))] σ (.int (partsM count ties)) ⟨σ.loc, [] ++ σ.mem⟩ := by
  refine parts_call G hA.room fun L' qual doc pm code ct an => ?_
  have hA1 := hA.in (n := 0) (callEnvC (fdOf (pst 19) qual doc pm code ct an) L' 103)
  have hu1 : (c.A.deeper (callEnvC (fdOf (pst 19) qual doc pm code ct an) L' 103)).units + 1 < cLine := by have := hA1.u; (first | lia | omega)
  have hlen0 : ((List.range count).map Int.ofNat).length = count := by simp
  refine EX_assignC (a := L' + 1) (EV.ep (EV_freezeP (ds := ((List.range count).map Int.ofNat).map .int) (EP_callT (EV_bl G rfl) (EVs_cons (EV_callT (EV_bl G rfl) (EVs_cons (EV_local rfl) EVs_nil) OPs_range1) EVs_nil) (OPsP_listRange hA1.h (up_ok (by (first | lia | omega))) (by rw [up_size]; (first | lia | omega)))) ?_)) ?_
  · rintro d σ' ⟨D, rfl, rfl⟩
    refine ⟨D, rfl, ?_⟩
    have e : itemsOf (.rng 0 (count : Int) 1) = (((List.range count).map Int.ofNat).map PyData.int).map AV.dat := by
      simp only [itemsOf, up_size, Int.toNat_natCast, List.map_map]
      exact List.map_congr_left fun i _ => by show AV.int _ = AV.int _; simp
    rw [e]
  rintro _ _ ⟨rfl, rfl⟩
  refine ⟨none, _, .tail (.tail .head), ?_⟩
  refine EX_for (J := fun k σ' => ∃ o o', σ' = mk [("count", .int count), ("ties", .dat (.list (tups ties)))] [(L' + 1 + 1 + 1, .cell o), (L' + 1 + 1, .cell o'), (L' + 1, .cell (some (.li ((ties.take k).foldl relab ((List.range count).map Int.ofNat)))))])
    (EV_local rfl) trivial hA1.h Own_tuple (Le.mk (l := [("count", .int count), ("ties", .dat (.list (tups ties)))]) ⟨rfl, rfl, trivial⟩) ⟨none, none, rfl⟩ ?_ ?_
  · rintro fr k d _ ⟨o, o', rfl⟩ hd
    have hd' : (tups ties)[k]?.map AV.dat = some d := by rw [← List.getElem?_map]; exact hd
    have hk : k < ties.length := by
      rcases Nat.lt_or_ge k ties.length with h | h
      · exact h
      · rw [List.getElem?_eq_none (by rw [tups_length]; exact h)] at hd'; cases hd'
    rw [tups_get hk] at hd'
    obtain ⟨i, j, hij, hi, hj⟩ := ht ties[k] (List.getElem_mem hk)
    obtain rfl : AV.dat (.tuple [.int (i : Nat), .int (j : Nat)]) = d := by
      have := Option.some.inj hd'
      rw [← this, hij]; rfl
    have htk : (ties.take (k + 1)).foldl relab ((List.range count).map Int.ofNat) = relab ((ties.take k).foldl relab ((List.range count).map Int.ofNat)) [(i : Int), (j : Int)] := by
      rw [List.take_add_one, List.getElem?_eq_getElem hk, hij, Option.toList_some, List.foldl_append]; rfl
    have hll : ((ties.take k).foldl relab ((List.range count).map Int.ofNat)).length = count := by rw [foldl_relab_length]; simp
    generalize hlab : (ties.take k).foldl relab ((List.range count).map Int.ofNat) = lab at *
    have hg : ∀ q : Nat, q < count → (lab.map PyData.int)[((q : Int)).toNat]? = some (.int (lab.getD q 0)) := fun q hq => by
      rw [Int.toNat_natCast, List.getElem?_map, List.getD_eq_getElem?_getD, List.getElem?_eq_getElem (by (first | lia | omega))]; rfl
    refine ⟨_, Asg_tuple2 hA1.h, ?_⟩
    refine EX_assignC (a := L' + 1 + 1) (EV.ep (EV_sub (EV_cell (a := L' + 1) (.tail _ (.tail _ (.head _)))) (EV_local rfl) (OP_itemList (by (first | lia | omega)) (hg j hj) (by (first | lia | omega))))) ?_
    rintro _ _ ⟨rfl, rfl⟩
    refine ⟨o', _, .tail .head, ?_⟩
    refine EX_assignC (a := L' + 1 + 1 + 1) (EV.ep (EV_sub (EV_cell (a := L' + 1) (.tail _ (.tail _ (.head _)))) (EV_local rfl) (OP_itemList (by (first | lia | omega)) (hg i hi) (by (first | lia | omega))))) ?_
    rintro _ _ ⟨rfl, rfl⟩
    refine ⟨o, _, .head, ?_⟩
    refine EX_assignC (a := L' + 1) (EV.ep (EV_freezeP (ds := (relab lab [(i : Int), (j : Int)]).map .int) (EP_comp (cl := [("old", L' + 1 + 1), ("new", L' + 1 + 1 + 1)]) (fun d => match d with | .dat (.int x) => some (.int (if x = lab.getD j 0 then lab.getD i 0 else x)) | _ => none)
      (EV_cell (a := L' + 1) (.tail _ (.tail _ (.head _)))) trivial hA1.h (by simp [itemsOf]; (first | lia | omega)) ?_) ?_)) ?_
    · intro C fr d hd
      obtain ⟨p, hp, rfl⟩ := List.mem_map.mp hd
      obtain ⟨x, hx, rfl⟩ := List.mem_map.mp hp
      refine ⟨rfl, EV_if (σ₁ := mk [("x", .int x)] _) (v := decide (x = lab.getD j 0)) (TV_eq (TV_cmp (EV_local rfl) (EV_cell (a := L' + 1 + 1) (.tail _ (.head _))) (OP_eq rfl rfl (by exact Nat.lt_of_le_of_lt (Nat.add_le_add_left (Nat.le_of_eq (show min (PyData.depth (.int x)) (PyData.depth (.int (lab.getD j 0))) = 0 from rfl)) _) (by exact hA1.units)))) ?_) (fun hv => EV_eq (EV_cell (a := L' + 1 + 1 + 1) (.head _)) ?_) (fun hv => EV_eq (EV_local rfl) ?_)⟩
      · show (x == lab.getD j 0) = _
        rw [Bool.eq_iff_iff]; simp
      · rw [if_pos (of_decide_eq_true hv)]
      · rw [if_neg (of_decide_eq_false hv)]
    · rintro d σ' ⟨D, rfl, rfl⟩
      refine ⟨D, rfl, ?_⟩
      have e : (itemsOf (.li lab)).filterMap (fun d => match d with | .dat (.int x) => some (AV.int (if x = lab.getD j 0 then lab.getD i 0 else x)) | _ => none) = ((relab lab [(i : Int), (j : Int)]).map PyData.int).map AV.dat := by
        simp only [itemsOf, relab, List.map_map, List.filterMap_map]
        rw [← List.filterMap_eq_map]
        rfl
      rw [e]
    · rintro _ _ ⟨rfl, rfl⟩
      refine ⟨_, _, .tail (.tail .head), EX_nil ⟨_, ⟨some (.int (lab.getD i 0)), some (.int (lab.getD j 0)), rfl⟩, ?_⟩⟩
      refine Le.mk ⟨rfl, rfl, trivial⟩ ?_
      rw [htk]
      exact List.Sublist.refl _
  · rintro _ ⟨o, o', rfl⟩
    have hil : (itemsOf (.dat (.list (tups ties)))).length = ties.length := by simp [itemsOf, tups_length]
    rw [hil, List.take_length]
    show Cx.EX _ _ (mk _ [_, _, (_, .cell (some (.li (partsL count ties))))]) _
    have hfl : (itemsOf (.rng 0 (count : Int) 1)).filterMap (fun d => match d with | .dat (.int x) => if (partsL count ties).contains x then some (AV.int x) else none | _ => none) = (((List.range count).filter fun (k : Nat) => (partsL count ties).contains (k : Int)).map fun (k : Nat) => PyData.int k).map AV.dat := by
      simp only [itemsOf, up_size, Int.toNat_natCast, List.filterMap_map]
      rw [List.map_map]
      induction List.range count with
      | nil => rfl
      | cons a l ih =>
        rw [List.filterMap_cons, List.filter_cons, ih]
        simp only [Function.comp_apply, Int.zero_add, Int.mul_one]
        cases (partsL count ties).contains (a : Int) <;> rfl
    refine EX_ret (EV_callB (EV_bl G rfl) (EVs_cons (EV_freezeP (ds := ((List.range count).filter fun (k : Nat) => (partsL count ties).contains (k : Int)).map fun (k : Nat) => PyData.int k) (EP_comp (cl := [("label", L' + 1)]) (fun d => match d with | .dat (.int x) => if (partsL count ties).contains x then some (AV.int x) else none | _ => none)
      (EV_callT (EV_bl G rfl) (EVs_cons (EV_local rfl) EVs_nil) OPs_range1) (up_ok (by (first | lia | omega))) hA1.h (by rw [up_length]; (first | lia | omega)) ?_) ?_) EVs_nil) (OPs_lenList ?_)) ?_
    · intro C fr d hd
      obtain ⟨q, hq, rfl⟩ := List.mem_map.mp hd
      simp only []
      cases hcon : (partsL count ties).contains (0 + (q : Int) * 1) with
      | true =>
        rw [if_pos rfl]
        exact ⟨TV_eq (TV_cmp (EV_local rfl) (EV_cell (a := L' + 1) (.tail _ (.tail _ (.head _)))) (OP_inList (canLay_ints _) rfl (by rw [depth_ints]; simpa using hu1))) (by rw [anyI]; exact hcon), EV_local rfl⟩
      | false =>
        rw [if_neg (by decide)]
        exact TV_eq (TV_cmp (EV_local rfl) (EV_cell (a := L' + 1) (.tail _ (.tail _ (.head _)))) (OP_inList (canLay_ints _) rfl (by rw [depth_ints]; simpa using hu1))) (by rw [anyI]; exact hcon)
    · rintro d σ' ⟨D, rfl, rfl⟩
      exact ⟨D, rfl, by rw [hfl]⟩
    · rw [List.length_map]
      have := List.length_filter_le (fun (k : Nat) => (partsL count ties).contains (k : Int)) (List.range count)
      rw [List.length_range] at this; (first | lia | omega)
    · show AV.int _ = AV.int _
      rw [List.length_map]; rfl
end
end Mine

end

noncomputable section
open PySem PySem.W PyProof.Rows PySem.Calls
set_option Elab.async false
set_option linter.unusedVariables false
set_option maxRecDepth 100000
namespace Mine

section
variable {c : Cx} {σ σ₁ σ₂ : AS} {P : AFl → AS → Prop} {rest : List Stmt}
theorem OP_addList {ds es : List PyData} (hz : ds.length + es.length < 100000) : c.OP2 (binaryOp .Add) (.dat (.list ds)) (.dat (.list es)) σ (.dat (.list (ds ++ es))) σ := fun _ _ s v u x r₁ r₂ h => by
  obtain ⟨as, r⟩ := r₁; obtain ⟨bs, r'⟩ := r₂
  cases r with
  | @list a o vs n _ as h1 h2 h3 h4 =>
    cases r' with
    | @list b o' vs' n' _ bs k1 k2 k3 k4 =>
      have q1 := x.sub_heap _ _ h1
      have q2 := x.sub_heap _ _ k1
      have hl1 := VRels.length (VRels.of_reads h4)
      have hl2 := VRels.length (VRels.of_reads k4)
      rw [List.length_map] at hl1 hl2
      obtain ⟨cl, dd, dt, sl⟩ := o
      obtain ⟨cl', dd', dt', sl'⟩ := o'
      simp only at h2 h3 k2 k3
      subst h2 h3 k2 k3
      have e : vs ++ vs' = (vs.toList ++ vs'.toList).toArray := by apply Array.toList_inj.mp; simp
      obtain ⟨y, k, g⟩ := Mine.St.frozen x { cls := .type "list", data := .seq (vs ++ vs') } rfl s.toks
      have rr := VRels.append (VRels.of_reads h4) (VRels.of_reads k4)
      rw [← List.map_append] at rr
      obtain ⟨cs, rc⟩ := VRels.reads (rr.mono k)
      refine concat_meets ⟨_, q1, rfl⟩ ⟨_, q2, rfl⟩ noFill_list_add seq_list_add PySem.F.slot_list_add PySem.F.entry_list_add (PySem.F.args_list_add_2 _ _) (list_addW a b vs vs' n n' dd dd' sl sl' (by rw [sizeLine_eq]; simp at hl1 hl2; (first | lia | omega))) ⟨q1, q2, ?_⟩
      exact h _ _ y k ⟨_, .list g rfl rfl (by simpa using rc)⟩
theorem EV_mulList {e r : Expr} {p p' : Pos} {d : PyData} {n : Int} (he : c.EV e σ (.dat d) σ) (hr : ∀ fr, (c.on fr).EV r σ (.int n) σ) (h0 : -1000 ≤ n) (hn : n < 1000)
    (hst : starEach [e] c.env = (false, eval e c.env) :: starEach [] c.env := by rfl) : c.EV (.BinOp (.List [e] p) .Mult r p') σ (.dat (.list (List.replicate n.toNat d))) σ := fun E Q s x hq =>
  wpAny_BinOp (EP_listM (EVs_cons he EVs_nil hst) (by simp) _ _ s x fun v s₁ d₁ σ₁ hp x₁ k₁ r₁ => by
    obtain ⟨D, rfl, rfl⟩ := hp
    obtain rfl : v = .ref D := r₁
    obtain ⟨x₁', k₁', _⟩ := Mine.St.perm x₁ (m' := σ.mem ++ ((D, .list [.dat d]) :: c.fr)) List.perm_middle.symm
    refine hr ((D, .list [.dat d]) :: c.fr) _ _ s₁ x₁' fun u s₂ x₂ k₂ r₂ => ?_
    obtain ⟨t, rfl⟩ := r₂.int
    obtain ⟨vs, nn, e1, rr⟩ := x₂.mem (D, .list [.dat d]) (List.mem_append_right _ (.head _))
    replace rr := VRels.one rr
    obtain ⟨v, rfl, rv⟩ := rr
    have hl : s₂.heap.get? D = some { cls := .type "list", dict := none, data := .seq [v].toArray nn, slots := #[] } := e1
    obtain ⟨x₃, k₃⟩ := Mine.St.less x₂ (σ' := c.all σ) ((List.Sublist.refl _).append (List.sublist_cons_self _ _)) (fun _ _ e => e)
    refine wpAny_binaryOp_repeat_ref (T := "list") (U := "int") (by decide) ⟨_, hl, rfl⟩ (fun s' => typeIs_int s' n t) noFill_list_mul F.fills_int_mul F.slot_int_rmul repeat_list F.slot_int_index.lookup
      (call_meets F.slot_int_rmul (typeIs_int s₂ n t) F.entry_int_rmul (F.args_int_rmul_2 _ _) (int___rmul___int_list n t D [v].toArray nn)
        ⟨hl, rfl, ⟨_, hl, rfl⟩, call_meets F.slot_list_mul ⟨_, hl, rfl⟩ F.entry_list_mul (F.args_list_mul_2 _ _)
          (AutoListH.list___mul___list_int_3 D [v].toArray nn n t (by simp [Builtin.List.listFitsIndex]; (first | lia | omega)) (by have h1 : [v].toArray.size = 1 := rfl; rw [h1]; (first | lia | omega)) (by have h1 : [v].toArray.size = 1 := rfl; rw [h1, Nat.one_mul]; simp [Builtin.List.listTooLong, sizeLine]; (first | lia | omega)))
          ⟨hl, ?_⟩⟩)
    obtain ⟨y, k, g⟩ := Mine.St.frozen x₃ { cls := .type "list", data := .seq (List.foldl (fun x1 x2 => x1 ++ x2) #[] (List.replicate (if [v].toArray.isEmpty = true then 0 else n.toNat) [v].toArray)) } rfl s₂.toks
    have e2 : (List.foldl (fun x1 x2 => x1 ++ x2) #[] (List.replicate (if [v].toArray.isEmpty = true then 0 else n.toNat) [v].toArray)).toList = List.replicate n.toNat v := by
      rw [listMul_foldl]
      simp
    have rr : ∀ k : Nat, VRels (c.fz σ { s₂ with heap := s₂.heap.push { cls := .type "list", data := .seq (List.foldl (fun x1 x2 => x1 ++ x2) #[] (List.replicate (if [v].toArray.isEmpty = true then 0 else n.toNat) [v].toArray)) }, toks := s₂.toks }) (List.replicate k v) ((List.replicate k d).map .dat) := fun j => by
      induction j with
      | zero => trivial
      | succ j ih => exact ⟨(VRel.mono k (VRel.mono k₃ rv)), ih⟩
    obtain ⟨cs, rc⟩ := VRels.reads (rr n.toNat)
    exact hq _ _ y ((((k₁.trans k₁').trans k₂).trans k₃).trans k) ⟨_, .list g rfl rfl (by rw [e2]; exact rc)⟩)
theorem OPs_sum {ns : List Int} (hh : c.A.handled = none) : c.OPs (fun vs => call (.builtin "sum") vs) [.dat (.list (ns.map .int))] σ (.int ns.sum) σ := fun E Q s vs x r h => by
  replace r := VRels.one r
  obtain ⟨v, rfl, ⟨as, r⟩⟩ := r
  cases r with
  | @list a o vs n _ as h1 h2 h3 h4 =>
    have hl : s.heap.IsList a vs := ⟨o, x.sub_heap _ _ h1, h2, n, h3⟩
    have hi := intsAre_of h4
    obtain ⟨xs, hxs⟩ : ∃ xs : Array (Int × Tok), vs = intItems xs := AllInts.items (fun v hv => by
      have : AllInts vs.toList.toArray := hi.allInts
      exact this v (by simpa using hv))
    have hnum : xs.toList.map (·.1) = ns := by
      have h5 := hi.numsOf
      rw [hxs] at h5
      rw [← h5]
      have : ∀ l : List (Int × Tok), numsOf (l.map fun p => Value.int p.1 p.2) = l.map (·.1) := fun l => by
        induction l with
        | nil => rfl
        | cons p l ih => simp [numsOf, ih]
      simp [intItems, this]
    subst hxs
    refine sum_intListG hh hl fun h' tk t' hk => ?_
    obtain ⟨y, k⟩ := Mine.St.grow x hk tk
    rw [preSum_eq, List.take_of_length_le (by simp), hnum]
    exact h _ _ y k (VRel.mkInt ..)
end
end Mine

end

noncomputable section
open PySem PySem.W PyProof.Rows PySem.Calls
set_option Elab.async false
set_option linter.unusedVariables false
set_option maxRecDepth 100000
namespace Mine

theorem compTurn_outer (elt t1 i1 t2 i2 : Expr) (ifs2 : List Expr) (scope : Scope) (pos : Pos) (it acc : Value) (env : Env) :
    compTurn (.ListComp elt [⟨t1, i1, [], 0⟩, ⟨t2, i2, ifs2, 0⟩] scope pos) 0 it acc env = (do
      standAt i1.pos
      match ← pyNext it with
      | none => pure (.done .next)
      | some v =>
        letOwnedTupleGo t1 it v
        assign t1 env v
        let x ← eval i2 env
        standAt i2.pos
        let x ← foldedSetIterable i2 env x
        let _ ← runOwn (.compStart (.ListComp elt [⟨t1, i1, [], 0⟩, ⟨t2, i2, ifs2, 0⟩] scope pos) 1 (← holding [x] (pyIter x)) acc env) env
        again (.compLoop (.ListComp elt [⟨t1, i1, [], 0⟩, ⟨t2, i2, ifs2, 0⟩] scope pos) 0 it acc env)) := by rfl
theorem compStart_inner {prog : Program} {w : World} {A : Around} {R : Result → Shared → Prop} {s : Shared} {elt target iter : Expr} {ifs : List Expr} {g : Comprehension} {scope : Scope} {pos : Pos} {it acc : Value} {env : Env}
    (h0 : codeAny (model prog w) A (.compLoop (.ListComp elt [g, ⟨target, iter, ifs, 0⟩] scope pos) 1 it acc env) R s)
    (h : wpAny (model prog w) A (pyIter it) (fun it' s' => codeAny (model prog w) A (.compLoop (.ListComp elt [g, ⟨target, iter, ifs, 0⟩] scope pos) 1 it' acc env) R s')
      (notedBy (model prog w) A env fun x s' => R (.error x) s') s) :
    codeAny (model prog w) A (.compStart (.ListComp elt [g, ⟨target, iter, ifs, 0⟩] scope pos) 1 it acc env) R s := by
  refine codeAny_of_tree ?_
  show wpAny _ _ ((compStart (.ListComp elt [g, ⟨target, iter, ifs, 0⟩] scope pos) 1 it acc env).onRaise (fun x => do noteFrame x env; standAt theWindowsPlace)) _ _ s
  refine wpAny_notedAt ?_
  unfold compStart
  show wpAny _ _ (ask >>= _) _ _ s
  refine wpAny_bind (wpAny_askSetting (wpAny_ite ?_))
  split
  · first
      | exact wpAny_bind (wpAny_pure (wpAny_pure (And.intro rfl h0)))
      | exact wpAny_pure (And.intro rfl h0)
  · first
      | exact wpAny_bind (wpAny_rule (wpAny_bind (wpAny_standAt (wpAny_bind (wpAny_mono h (fun it' s' h' => wpAny_pure (And.intro rfl h')) fun _ _ x => x)))))
      | (refine wpAny_bind (wpAny_rule ?_); show wpAny _ _ (standAt iter.pos >>= _) _ _ s; exact wpAny_bind (wpAny_standAt (wpAny_bind (wpAny_mono h (fun it' s' h' => wpAny_pure (And.intro rfl h')) fun _ _ x => x))))

section
variable {c : Cx} {σ σ₁ σ₂ : AS} {P : AFl → AS → Prop} {rest : List Stmt}
theorem comp_loop2 {elt i1 i2 : Expr} {x z : Str} {px pz : Pos} {sc : Scope} {pos : Pos} {src : AV} {inner : AV → AV} {f : AV → AV → Option AV} {D I : Addr} {m fr : List (Addr × ACell)} {s₀ : Shared} {R : Result → Shared → Prop} (hh : c.A.handled = none)
    (hlen : (itemsOf src).length < 50) (hlen2 : ∀ d ∈ itemsOf src, (itemsOf (inner d)).length < 50) (hk : c.env.scope.kind = .function) (hl : c.env.kindOf x = some .local) (hlz : c.env.kindOf z = some .local) (hxz : x ≠ z)
    (hi2 : ∀ fr d, d ∈ itemsOf src → (c.on fr).EV i2 (mk [(x, d)] m) (inner d) (mk [(x, d)] m)) (ok2 : ∀ d ∈ itemsOf src, IterOk (inner d)) (hs2 : ∀ x, foldedSetIterable i2 c.env x = pure x)
    (turn : ∀ fr d e, d ∈ itemsOf src → e ∈ itemsOf (inner d) → (c.on fr).CTurn [] elt (mk [(z, e), (x, d)] m) (f d e))
    {loc : Str → Option AV} (y₀ : (c.on ((I, .iter src 0) :: (D, .list []) :: fr)).St ⟨loc, m⟩ s₀)
    (h : ∀ s' loc', (c.on ((D, .list ((itemsOf src).flatMap fun d => (itemsOf (inner d)).filterMap (f d))) :: fr)).St ⟨loc', m⟩ s' →
      Sub ((c.on ((I, .iter src 0) :: (D, .list []) :: fr)).fz ⟨loc, m⟩ s₀) ((c.on ((D, .list ((itemsOf src).flatMap fun d => (itemsOf (inner d)).filterMap (f d))) :: fr)).fz ⟨loc', m⟩ s') → R (.ok .next) s') :
    codeAny (model c.prog c.w) c.A (.compLoop (.ListComp elt [⟨.Name x px, i1, [], 0⟩, ⟨.Name z pz, i2, [], 0⟩] sc pos) 0 (.ref I) (.ref D) c.env) R s₀ := by
  let ds := fun k => ((itemsOf src).take k).flatMap fun d => (itemsOf (inner d)).filterMap (f d)
  have hdsl : ∀ k, k ≤ (itemsOf src).length → (ds k).length ≤ 50 * k := fun k hk => by
    show (((itemsOf src).take k).flatMap fun d => (itemsOf (inner d)).filterMap (f d)).length ≤ _
    have : ∀ l : List AV, (∀ d ∈ l, d ∈ itemsOf src) → (l.flatMap fun d => (itemsOf (inner d)).filterMap (f d)).length ≤ 50 * l.length := fun l => by
      induction l with
      | nil => intro _; simp
      | cons a l ih =>
        intro hm
        have h1 := ih fun d hd => hm d (.tail _ hd)
        have h2 := hlen2 a (hm a (.head _))
        have h3 := List.length_filterMap_le (f a) (itemsOf (inner a))
        rw [List.flatMap_cons, List.length_append, List.length_cons]; (first | lia | omega)
    have h1 := this ((itemsOf src).take k) fun d hd => List.mem_of_mem_take hd
    rw [List.length_take] at h1; (first | lia | omega)
  refine codeAny_loop rfl (fun n s => ∃ k loc', n = (itemsOf src).length + 1 - k ∧ k ≤ (itemsOf src).length ∧ (c.on ((I, .iter src k) :: (D, .list (ds k)) :: fr)).St ⟨loc', m⟩ s ∧
      Sub ((c.on ((I, .iter src 0) :: (D, .list []) :: fr)).fz ⟨loc, m⟩ s₀) ((c.on ((I, .iter src k) :: (D, .list (ds k)) :: fr)).fz ⟨loc', m⟩ s)) ?_ ((itemsOf src).length + 1) ⟨0, loc, rfl, by (first | lia | omega), y₀, Sub.rfl⟩
  rintro n s ⟨k, loc', rfl, hk', y, q⟩
  show wpAny _ _ ((compTurn (.ListComp elt [⟨.Name x px, i1, [], 0⟩, ⟨.Name z pz, i2, [], 0⟩] sc pos) 0 (.ref I) (.ref D) c.env).onRaise (fun x => do noteFrame x c.env; theTreesLotGoes x)) _ _ s
  refine wpAny_noted ?_
  rw [compTurn_outer]
  refine wpAny_bind (wpAny_standAt (wpAny_bind ?_))
  by_cases hlt : k < (itemsOf src).length
  · have hd : (itemsOf src)[k]? = some (itemsOf src)[k] := List.getElem?_eq_getElem hlt
    generalize hdd : (itemsOf src)[k] = d at hd
    have hmem : d ∈ itemsOf src := hdd ▸ List.getElem_mem hlt
    have hds1 : ds (k + 1) = ds k ++ (itemsOf (inner d)).filterMap (f d) := by
      show ((itemsOf src).take (k + 1)).flatMap _ = _
      rw [List.take_add_one, hd, Option.toList_some, List.flatMap_append]
      simp [ds]
    refine next_item y hd fun v s₁ y₁ k₁ r₁ => ?_
    refine wpAny_bind (wpAny_of_eq (a := ()) rfl ?_)
    refine wpAny_bind (Asg_name (c := c.on ((I, .iter src (k + 1)) :: (D, .list (ds k)) :: fr)) hk hl _ _ s₁ v y₁ r₁ fun s₂ y₂ k₂ => ?_)
    obtain ⟨y₃, k₃⟩ := Le.st (σ' := mk [(x, d)] m) (Le.mk (l := [(x, d)]) ⟨AS.set_self, trivial⟩) y₂
    refine wpAny_bind (hi2 ((I, .iter src (k + 1)) :: (D, .list (ds k)) :: fr) d hmem _ _ s₂ y₃ fun v₄ s₄ y₄ k₄ r₄ => ?_)
    refine wpAny_bind (wpAny_standAt (wpAny_bind (wpAny_of_eq (hs2 v₄) ?_)))
    refine wpAny_bind (wpAny_holding (iter_new (c := c.on ((I, .iter src (k + 1)) :: (D, .list (ds k)) :: fr)) y₄ r₄ (ok2 d hmem) fun I2 s₅ y₅ k₅ => ?_))
    refine wpAny_bind (wpAny_runOwn ?_)
    rw [Around.mark_none]
    obtain ⟨y₆, k₆, _⟩ := Mine.St.perm y₅ (m' := m ++ ((I2, .iter (inner d) 0) :: (D, .list (ds k)) :: (I, .iter src (k + 1)) :: fr)) ((((List.Perm.swap _ _ _).cons _)).append_left m)
    have fin : ∀ R' : Result → Shared → Prop, (∀ s₇ loc₇, (c.on ((I, .iter src (k + 1)) :: (D, .list (ds (k + 1))) :: fr)).St ⟨loc₇, m⟩ s₇ → Sub ((c.on ((I2, .iter (inner d) 0) :: (D, .list (ds k)) :: (I, .iter src (k + 1)) :: fr)).fz (mk [(x, d)] m) s₅) ((c.on ((I, .iter src (k + 1)) :: (D, .list (ds (k + 1))) :: fr)).fz ⟨loc₇, m⟩ s₇) → R' (.ok .next) s₇) →
        codeAny (model c.prog c.w) c.A (.compLoop (.ListComp elt [⟨.Name x px, i1, [], 0⟩, ⟨.Name z pz, i2, [], 0⟩] sc pos) 1 (.ref I2) (.ref D) c.env) R' s₅ := fun R' hR' => by
      refine comp_loop (c := c.on fr) (bl := [(x, d)]) (fr := (I, .iter src (k + 1)) :: fr) (f := f d) hh loop_inner (by have := hlen2 d hmem; (first | lia | omega)) (by have := hdsl k hk'; (first | lia | omega)) hk hlz (fun fr e he => turn fr d e hmem he) (fun p hp => by
        obtain rfl : p = (x, d) := by simpa using hp
        exact hxz) (fun e => ⟨by show List.lookup x [(z, e), (x, d)] = some d; rw [List.lookup_cons, show (x == z) = false from by simpa using hxz]; simp, trivial⟩) ⟨by show List.lookup x [(x, d)] = some d; simp, trivial⟩ y₆ fun s₇ loc₇ hl₇ y₇ k₇ => ?_
      obtain ⟨y₈, k₈, _⟩ := Mine.St.perm y₇ (m' := m ++ ((I, .iter src (k + 1)) :: (D, .list (ds k ++ (itemsOf (inner d)).filterMap (f d))) :: fr)) ((List.Perm.swap _ _ _).append_left m)
      exact hR' s₇ loc₇ (by rw [hds1]; exact y₈) (by rw [hds1]; exact k₇.trans k₈)
    have last : ∀ s₇ loc₇, (c.on ((I, .iter src (k + 1)) :: (D, .list (ds (k + 1))) :: fr)).St ⟨loc₇, m⟩ s₇ → Sub ((c.on ((I2, .iter (inner d) 0) :: (D, .list (ds k)) :: (I, .iter src (k + 1)) :: fr)).fz (mk [(x, d)] m) s₅) ((c.on ((I, .iter src (k + 1)) :: (D, .list (ds (k + 1))) :: fr)).fz ⟨loc₇, m⟩ s₇) →
        ∃ m_1, m_1 < (itemsOf src).length + 1 - k ∧ ∃ k loc', m_1 = (itemsOf src).length + 1 - k ∧ k ≤ (itemsOf src).length ∧ (c.on ((I, .iter src k) :: (D, .list (ds k)) :: fr)).St ⟨loc', m⟩ s₇ ∧
          Sub ((c.on ((I, .iter src 0) :: (D, .list []) :: fr)).fz ⟨loc, m⟩ s₀) ((c.on ((I, .iter src k) :: (D, .list (ds k)) :: fr)).fz ⟨loc', m⟩ s₇) := fun s₇ loc₇ y₇ k₇ =>
      ⟨_, by (first | lia | omega), k + 1, loc₇, rfl, hlt, y₇, (((((((q.trans k₁).trans k₂).trans k₃).trans k₄).trans k₅).trans k₆).trans k₇)⟩
    refine compStart_inner (fin _ fun s₇ loc₇ y₇ k₇ => wpAny_pure ⟨rfl, last s₇ loc₇ y₇ k₇⟩) ?_
    refine iter_self (c := c) (σ := mk [(x, d)] m) (src := inner d) (k := 0) (I := I2) (fr := (D, .list (ds k)) :: (I, .iter src (k + 1)) :: fr) y₆ ?_
    exact fin _ fun s₇ loc₇ y₇ k₇ => wpAny_pure ⟨rfl, last s₇ loc₇ y₇ k₇⟩
  · obtain rfl : k = (itemsOf src).length := by (first | lia | omega)
    refine next_end hh y (Nat.le_refl _) fun s₁ y₁ k₁ => ?_
    have e : ds (itemsOf src).length = (itemsOf src).flatMap fun d => (itemsOf (inner d)).filterMap (f d) := by show ((itemsOf src).take _).flatMap _ = _; rw [List.take_length]
    rw [e] at y₁ k₁ q
    exact wpAny_pure (h s₁ loc' y₁ (q.trans k₁))
theorem comp_gen {elt target iter : Expr} {ifs : List Expr} {gs : List Comprehension} {scope : Scope} {cl : List (Str × Addr)} {pos : Pos} {src : AV} {out : List AV} {use : Option (Value → Sem Unit)} {E Q : Value → Shared → Prop} {s : Shared}
    (hi : c.EV iter σ src σ) (ok : IterOk src) (hclos : closureFor scope c.env = pure cl) (hcell : ∀ y ∈ scope.names, y.2 ≠ .cell) (hkind : scope.kind = .function)
    (hnames : ∀ y ∈ scope.names, y.2 = .local → scope.names.lookup y.1 = some .local) (hs : ∀ x, foldedSetIterable iter c.env x = pure x)
    (run : ∀ C D I s₀ (R : Result → Shared → Prop), ((c.cc scope cl C c.fr).on ((I, .iter src 0) :: (D, .list []) :: (c.env.locals, .ns σ.loc) :: c.fr)).St ⟨fun _ => none, σ.mem⟩ s₀ →
      (∀ s' loc', ((c.cc scope cl C c.fr).on ((D, .list out) :: (c.env.locals, .ns σ.loc) :: c.fr)).St ⟨loc', σ.mem⟩ s' → Sub (((c.cc scope cl C c.fr).on ((I, .iter src 0) :: (D, .list []) :: (c.env.locals, .ns σ.loc) :: c.fr)).fz ⟨fun _ => none, σ.mem⟩ s₀) (((c.cc scope cl C c.fr).on ((D, .list out) :: (c.env.locals, .ns σ.loc) :: c.fr)).fz ⟨loc', σ.mem⟩ s') → R (.ok .next) s') →
      codeAny (model c.prog c.w) c.A (.compLoop (.ListComp elt (⟨target, iter, ifs, 0⟩ :: gs) scope pos) 0 (.ref I) (.ref D) (compEnvC scope cl C c.env)) R s₀) (y : c.St σ s)
    (h : ∀ C D s' locC, (c.on ((C, .ns locC) :: c.fr)).St ⟨σ.loc, (D, .list out) :: σ.mem⟩ s' → Sub (c.fz σ s) ((c.on ((C, .ns locC) :: c.fr)).fz ⟨σ.loc, (D, .list out) :: σ.mem⟩ s') →
      compPost (model c.prog c.w) c.A E use Q (.ref D) C (.ok .next) s') :
    c.wp (comprehension (.ListComp elt (⟨target, iter, ifs, 0⟩ :: gs) scope pos) scope c.env (firstIterPos (⟨target, iter, ifs, 0⟩ :: gs) pos) (newList []) false (eval iter c.env) use) Q E s := by
  refine wpAny_comprehension_free rfl hs hclos hkind hnames ?_
  refine hi _ _ s y fun v s₁ y₁ k₁ r₁ => ?_
  refine iter_new y₁ r₁ ok fun I s₂ y₂ k₂ => ?_
  refine wpAny_newObj_type ?_
  obtain ⟨y₃, k₃⟩ := Mine.St.new y₂ (a := s₂.heap.objs.size) (c := .list []) (h' := s₂.heap.push { cls := .type "list", data := .seq ([] : List Value).toArray }) (fun _ _ e => Heap.get?_push_of_some _ e) (fresh_none _) s₂.toks
    (fun g hg => ⟨[], 0, Heap.get?_push_size _ rfl, trivial⟩)
  refine wpAny_newFunctionEnv hcell (by intro y hy; simp at hy) (fun h₁ hns₁ hsb₁ => ?_) hkind
  have hsub : Sub (s₂.heap.push { cls := .type "list", data := .seq ([] : List Value).toArray }) h₁ := fun b o e => (hsb₁.2 b (fun q => by rw [q] at e; rw [fresh_none] at e; cases e)).trans (Heap.get?_push_of_some _ e)
  have hp₃ : ((s₂.heap.objs.size, ACell.list []) :: (σ.mem ++ ((I, ACell.iter src 0) :: c.fr))).Perm (σ.mem ++ ((I, .iter src 0) :: (s₂.heap.objs.size, .list []) :: c.fr)) :=
    (List.perm_middle (a := (s₂.heap.objs.size, ACell.list [])) (l₁ := σ.mem ++ [(I, ACell.iter src 0)]) (l₂ := c.fr)).symm.trans (by rw [List.append_assoc]; exact List.Perm.refl _) |> fun z => by
      have e1 : (s₂.heap.objs.size, ACell.list []) :: (σ.mem ++ [(I, ACell.iter src 0)] ++ c.fr) = (s₂.heap.objs.size, ACell.list []) :: (σ.mem ++ ((I, ACell.iter src 0) :: c.fr)) := by rw [List.append_assoc]; rfl
      rw [e1] at z; exact z
  obtain ⟨y₄, k₄, _⟩ := y₃.perm hp₃
  obtain ⟨y₅, k₅⟩ := Mine.St.enter (L' := (s₂.heap.push { cls := .type "list", data := .seq ([] : List Value).toArray }).objs.size) (loc' := fun _ => none) y₄ hsub (fresh_none _) hns₁ (fun _ _ e => by cases e) (s₂.toks + 0)
  have hp₅ : ((c.env.locals, ACell.ns σ.loc) :: (σ.mem ++ ((I, .iter src 0) :: (s₂.heap.objs.size, .list []) :: c.fr))).Perm (σ.mem ++ ((I, .iter src 0) :: (s₂.heap.objs.size, .list []) :: (c.env.locals, .ns σ.loc) :: c.fr)) := by
    have z := (List.perm_middle (a := (c.env.locals, ACell.ns σ.loc)) (l₁ := σ.mem ++ [(I, ACell.iter src 0), (s₂.heap.objs.size, .list [])]) (l₂ := c.fr)).symm
    simpa using z
  obtain ⟨y₆, k₆, _⟩ := y₅.perm hp₅
  have fin : ∀ s₇ : Shared, s₇ = { s₂ with heap := h₁, toks := s₂.toks + ([] : List (Str × Value)).length } → codeAny (model c.prog c.w) c.A (.compLoop (.ListComp elt (⟨target, iter, ifs, 0⟩ :: gs) scope pos) 0 (.ref I) (.ref s₂.heap.objs.size) (compEnvC scope cl (s₂.heap.push { cls := .type "list", data := .seq ([] : List Value).toArray }).objs.size c.env))
      (compPost (model c.prog c.w) c.A E use Q (.ref s₂.heap.objs.size) (s₂.heap.push { cls := .type "list", data := .seq ([] : List Value).toArray }).objs.size) s₇ := by
    rintro s₇ rfl
    refine run _ _ _ _ _ y₆ fun s' loc' y₈ k₈ => ?_
    have hp₈ : (σ.mem ++ ((s₂.heap.objs.size, ACell.list out) :: (c.env.locals, .ns σ.loc) :: c.fr)).Perm ((c.env.locals, .ns σ.loc) :: (((s₂.heap.objs.size, ACell.list out) :: σ.mem) ++ c.fr)) := by
      exact (List.perm_middle.trans (List.perm_middle.cons _)).trans (List.Perm.swap _ _ _)
    obtain ⟨y₉, k₉, _⟩ := Mine.St.perm y₈ hp₈
    obtain ⟨y₁₀, k₁₀⟩ := y₉.swap
    obtain ⟨y₁₁, k₁₁, _⟩ := y₁₀.perm (m' := ((s₂.heap.objs.size, ACell.list out) :: σ.mem) ++ ((_, .ns loc') :: c.fr)) List.perm_middle.symm
    exact h _ _ s' loc' y₁₁ (((((((((k₁.trans k₂).trans k₃).trans k₄).trans k₅).trans k₆).trans k₈).trans k₉).trans k₁₀).trans k₁₁)
  refine codeAny_compStart_list (fin _ rfl) ?_
  refine iter_self (c := c.cc scope cl (s₂.heap.push { cls := .type "list", data := .seq ([] : List Value).toArray }).objs.size c.fr) (σ := ⟨fun _ => none, σ.mem⟩) (src := src) (k := 0) (I := I) (fr := (s₂.heap.objs.size, .list []) :: (c.env.locals, .ns σ.loc) :: c.fr) y₆ ?_
  exact fin _ rfl

theorem EX_assignComp2 {elt i1 i2 : Expr} {x z y : Str} {px pz py : Pos} {scope : Scope} {cl : List (Str × Addr)} {pos spos : Pos} {src : AV} (inner : AV → AV) (f : AV → AV → Option AV)
    (hi : c.EV i1 σ src σ) (ok : IterOk src) (hh : c.A.handled = none) (hlen : (itemsOf src).length < 50) (hlen2 : ∀ d ∈ itemsOf src, (itemsOf (inner d)).length < 50) (hxz : x ≠ z)
    (hi2 : ∀ C fr d, d ∈ itemsOf src → (c.cc scope cl C fr).EV i2 (mk [(x, d)] σ.mem) (inner d) (mk [(x, d)] σ.mem)) (ok2 : ∀ d ∈ itemsOf src, IterOk (inner d))
    (turn : ∀ C fr d e, d ∈ itemsOf src → e ∈ itemsOf (inner d) → (c.cc scope cl C fr).CTurn [] elt (mk [(z, e), (x, d)] σ.mem) (f d e))
    (hr : ∀ D, c.EX rest (AS.set ⟨σ.loc, (D, .list ((itemsOf src).flatMap fun d => (itemsOf (inner d)).filterMap (f d))) :: σ.mem⟩ y (.raw (.ref D))) P)
    (hsw : swapsWith (.ListComp elt [⟨.Name x px, i1, [], 0⟩, ⟨.Name z pz, i2, [], 0⟩] scope pos) (some (.Name y py)) spos.line c.env = pure true := by rfl)
    (hclos : closureFor scope c.env = pure cl := by rfl) (hcell : ∀ y ∈ scope.names, y.2 ≠ .cell := by decide) (hkind : scope.kind = .function := by rfl)
    (hnames : ∀ y ∈ scope.names, y.2 = .local → scope.names.lookup y.1 = some .local := by decide) (hx : scope.names.lookup x = some .local := by rfl) (hz : scope.names.lookup z = some .local := by rfl) (hs : ∀ x, foldedSetIterable i1 c.env x = pure x := by intro _; rfl)
    (hs2 : ∀ C x, foldedSetIterable i2 (compEnvC scope cl C c.env) x = pure x := by intro _ _; rfl)
    (hk : c.env.scope.kind = .function := by rfl) (hl : c.env.kindOf y = some .local := by rfl) :
    c.EX (.Assign [.Name y py] (.ListComp elt [⟨.Name x px, i1, [], 0⟩, ⟨.Name z pz, i2, [], 0⟩] scope pos) spos :: rest) σ P := EX_cons fun E Q s w hq => by
  show wpAny _ _ _ _ _ _
  rw [exec_Assign_Name_used _ _ _ _ hsw]
  refine wpAny_bind (wpAny_standAt (wpAny_bind ?_))
  show wpAny _ c.A (do let _ ← comprehension (.ListComp elt [⟨.Name x px, i1, [], 0⟩, ⟨.Name z pz, i2, [], 0⟩] scope pos) scope c.env _ (newList []) false (eval i1 c.env) (some (assign (.Name y py) c.env))) _ _ s
  refine wpAny_bind (wpAny_mono (comp_gen (use := some (assign (.Name y py) c.env)) (out := (itemsOf src).flatMap fun d => (itemsOf (inner d)).filterMap (f d)) (Q := fun _ s' => Q .next s') hi ok hclos hcell hkind hnames hs (fun C D I s₀ R y₀ hR =>
    comp_loop2 (c := c.cc scope cl C c.fr) hh hlen hlen2 (by simp [compEnvC, relabel, hkind]) (lookup_relabel_local hx) (lookup_relabel_local hz) hxz (fun fr d hd => hi2 C fr d hd) ok2 (hs2 C) (fun fr d e hd he => turn C fr d e hd he) y₀ hR) w fun C D s' locC y' k' => ?_) (fun _ s' hq => wpAny_pure (wpAny_pure hq)) fun _ _ e => e)
  refine Asg_name (c := c.on ((C, .ns locC) :: c.fr)) hk hl _ _ s' (.ref D) y' (d := .raw (.ref D)) rfl fun s₂ y₂ k₂ => ?_
  obtain ⟨mc, n, _⟩ := y₂.mem (C, .ns locC) (List.mem_append_right _ (.head _))
  refine ⟨mc, n, fun h' hs' => ?_⟩
  obtain ⟨y₃, k₃⟩ := Mine.St.lost y₂ hs'.extBut s₂.toks
  exact hq _ _ .next _ (hr D) y₃ ((k'.trans k₂).trans k₃) trivial
end
end Mine

end

noncomputable section
open PySem PySem.W PyProof.Rows PySem.Calls
set_option Elab.async false
set_option linter.unusedVariables false
set_option maxRecDepth 100000
namespace Mine

theorem pick_map {α β : Type} (g : α → β) (l : List α) (lo hi st : Option Int) : pick (l.map g) lo hi st = (pick l lo hi st).map g := by
  unfold pick
  rw [List.length_map]
  generalize sliceRange _ _ _ = is
  induction is with
  | nil => rfl
  | cons i is ih => simp only [List.filterMap_cons, List.getElem?_map]; cases l[i]? <;> simp_all
theorem eqvAll_tups : ∀ a b : List (List Int), PyData.eqvAll (tups a) (tups b) = decide (a = b)
  | [], [] => by simp [PyData.eqvAll, tups]
  | [], _ :: _ => by simp [PyData.eqvAll, tups]
  | _ :: _, [] => by simp [PyData.eqvAll, tups]
  | x :: a, y :: b => by
    show PyData.eqvAll (.tuple (x.map .int) :: tups a) (.tuple (y.map .int) :: tups b) = _
    rw [PyData.eqvAll, eqv_ints, eqvAll_tups a b]
    by_cases h : x = y <;> by_cases h' : a = b <;> simp [h, h']
theorem canLayAll_tups : ∀ a : List (List Int), PyData.canLayAll0 (tups a) = true
  | [] => rfl
  | x :: a => by
    show PyData.canLayAll0 (.tuple (x.map .int) :: tups a) = true
    rw [PyData.canLayAll0, canLay_tup, canLayAll_tups a]; rfl
theorem depthAll_tups : ∀ a : List (List Int), PyData.depthAll (tups a) ≤ 1
  | [] => by simp [tups, PyData.depthAll]
  | x :: a => by
    show PyData.depthAll (.tuple (x.map .int) :: tups a) ≤ 1
    rw [PyData.depthAll]
    have := depth_tup x
    have := depthAll_tups a
    (first | lia | omega)
theorem anyT (k : List Int) : ∀ l : List (List Int), ((tups l).any fun y => PyData.eqv y (.tuple (k.map .int))) = l.contains k
  | [] => rfl
  | i :: l => by
    show (PyData.eqv (.tuple (i.map .int)) (.tuple (k.map .int)) || (tups l).any _) = _
    rw [anyT k l, eqv_ints, List.contains_cons]
    congr 1
    by_cases h : i = k
    · subst h; simp
    · have h2 : (k == i) = false := by simpa using Ne.symm h
      rw [h2]; simpa using h

section
variable {c : Cx} {σ σ₁ σ₂ σ₃ : AS} {P : AFl → AS → Prop} {rest : List Stmt} {mg mb : Str → Option Value}
/-- arguments with a choice of the end -/
def Cx.EVsP (c : Cx) (es : List Expr) (σ : AS) (P : List AV → AS → Prop) : Prop :=
  ∀ (p : Pos) (E : Value → Shared → Prop) (Q : List Value → Shared → Prop) (s : Shared), c.St σ s → (∀ vs s' ds σ', P ds σ' → c.St σ' s' → Sub (c.fz σ s) (c.fz σ' s') → VRels (c.fz σ' s') vs ds → Q vs s') →
    c.wp (spliced (backTo p (starEach es c.env))) Q E s
theorem EVsP_last {e₁ e₂ : Expr} {d : AV} {P₀ : AV → AS → Prop} (h1 : c.EV e₁ σ d σ) (h2 : c.EP e₂ σ P₀) (hst : starEach [e₁, e₂] c.env = [(false, eval e₁ c.env), (false, eval e₂ c.env)] := by rfl) :
    c.EVsP [e₁, e₂] σ (fun ds σ' => ∃ d₂, ds = [d, d₂] ∧ P₀ d₂ σ') := fun p E Q s x h => by
  rw [hst]
  show wpAny _ _ (spliced ((false, eval e₁ c.env) :: backTo p [(false, eval e₂ c.env)])) Q E s
  refine spliced_cons (h1 _ _ s x fun v s₁ x₁ k₁ r₁ => ?_)
  show wpAny _ _ (spliced ((false, eval e₂ c.env) :: backTo p [])) _ E s₁
  exact spliced_cons (h2 _ _ s₁ x₁ fun v₂ s₂ d₂ σ₂ hp x₂ k₂ r₂ => spliced_nil (h _ _ _ _ ⟨d₂, rfl, hp⟩ x₂ (k₁.trans k₂) ⟨r₁.mono k₂, r₂, trivial⟩))
theorem EV_fnP {f : Str} {fp p : Pos} {args : List Expr} {a : Addr} {i : Nat} {d : AV} {Pa : List AV → AS → Prop} (G : Gd c.S₀ mg mb) (hi : (i, a) ∈ [(1, 21), (2, 28), (4, 35), (5, 42), (6, 49), (7, 56), (12, 63), (13, 70), (15, 77), (16, 84), (17, 91), (18, 98), (19, 103)])
    (hf : c.EV (.Name f fp) σ (.raw (.ref a)) σ) (ha : c.EVsP args σ Pa) (ho : ∀ ds σ', Pa ds σ' → c.OPs (fun vs => call (.ref a) vs) ds σ' d σ₂)
    (hne : ∃ x rest, backTo p (starEach args c.env) = (false, x) :: rest := by exact ⟨_, _, rfl⟩) : c.EV (.Call (.Name f fp) args [] p) σ d σ₂ := fun E Q s x h => by
  obtain ⟨fd, hfd⟩ := G.fn i a hi
  exact wpAny_Call_NameR (hf _ _ s x fun v s₁ x₁ k₁ r₁ => by
    obtain rfl : v = .ref a := r₁
    exact callWith_function (o := { cls := .type "function", data := .func fd }) (fd := fd) (evalArgs_of hne (ha p _ _ s₁ x₁ fun vs s₂ ds σ' hp x₂ k₂ r₂ => ⟨⟨x₂.base _ _ hfd.2.2, rfl⟩, ho ds σ' hp _ _ s₂ vs x₂ r₂ fun r' s₃ x₃ k₃ r₃ => h r' s₃ x₃ ((k₁.trans k₂).trans k₃) r₃⟩)))
theorem EX_assignT {x y : Str} {k : Nat} {p p' p₁ p₂ : Pos} {e : Expr} {d₁ d₂ : PyData} (hh : c.A.handled = none) (he : c.EV e σ (.dat (.tuple [d₁, d₂])) σ₁) (hr : c.EX rest ((σ₁.set x (.dat d₁)).set y (.dat d₂)) P)
    (hk : c.env.scope.kind = .function := by rfl) (hx : c.env.kindOf x = some .local := by rfl) (hy : c.env.kindOf y = some .local := by rfl)
    (hs : swapsWithSole [.Tuple [.Name x p₁, .Name y p₂] k p'] e p.line c.env = pure false := by rfl) (hw : swappedStores [.Tuple [.Name x p₁, .Name y p₂] k p'] e c.env = pure none := by rfl) :
    c.EX (.Assign [.Tuple [.Name x p₁, .Name y p₂] k p'] e p :: rest) σ P := EX_cons fun E Q s z hq =>
  PyProof.Rows.Assign_Tuple (he _ _ s z fun v s₁ z₁ k₁ r₁ => Asg_tuple2 hh hk hx hy _ _ s₁ v z₁ r₁ fun s₂ z₂ k₂ => hq _ _ .next _ hr z₂ (k₁.trans k₂) trivial) hs hw
theorem EV_same {e : Expr} {d : AV} {σ' : AS} (h : c.EV e σ d σ₁) (l : Le σ' σ₁) : c.EV e σ d σ' := fun E Q s x hq => h _ _ s x fun v s₁ x₁ k₁ r₁ => by
  obtain ⟨y, k⟩ := l.st x₁
  exact hq v s₁ y (k₁.trans k) (r₁.mono k)
end

/-- the words -/
def wordsL (script : List Int) : List (List Nat) := [[97, 98], [66, 65], [98]] ++ (List.range (min 2 script.length)).map fun (k : Nat) => wordOf ((pick script (some (k : Int)) none (some 2)).sum.fmod 85).toNat
def strsD (ws : List (List Nat)) : List PyData := ws.map fun w => .str (sOf w)
def pairsL (n : Nat) : List (List Int) := (List.range n).flatMap fun (j : Nat) => (List.range j).map fun (i : Nat) => [(i : Int), (j : Int)]
/-- how far two words are apart -/
def farL (ws : List (List Nat)) (i j : Int) : Int := lev (ws.getD i.toNat []) (ws.getD j.toNat [])
def tieLen (f : Int → Int → Int) (t : List Int) : Int := f (t.getD 0 0) (t.getD 1 0)
def aheadL (f : Int → Int → Int) (n : Nat) (l : Int) : List (List Int) := (pairsL n).filter fun t => decide (tieLen f t < l)
def behindL (f : Int → Int → Int) (n : Nat) (l : Int) : List (List Int) := (pairsL n).filter fun t => decide (tieLen f t ≤ l)
def dueL (f : Int → Int → Int) (n m : Nat) : List Int := (List.range m).flatMap fun (l : Nat) => List.replicate ((partsM n (aheadL f n l) : Int) - partsM n (behindL f n l)).toNat (l : Int)

/-- what is asked of the numbers -/
structure LawOk (f : Int → Int → Int) (n : Nat) (F S : List (List Int)) : Prop where
  net1 : ∃ r, netM f n 0 1 = some r ∧ sortP r = F
  net2 : ∃ r, netM f n ((n : Int) - 1) (-1) = some r ∧ sortP r = S
  ties1 : ∀ t ∈ F, t ∈ pairsL n
  ties2 : ∀ t ∈ S, t ∈ pairsL n
  len1 : F.length < 100
  len2 : S.length < 100
  nd1 : F.Nodup
  nd2 : S.Nodup
  due1 : (F.map (tieLen f)).Perm (dueL f n 7)
  due2 : (S.map (tieLen f)).Perm (dueL f n 7)
  gone : (mrg F S).1 = F.filter fun t => !S.contains t
  come : (mrg F S).2 = S.filter fun t => !F.contains t
  same : (((mrg F S).1).map (tieLen f)).Perm (((mrg F S).2).map (tieLen f))
structure WordsOk (ws : List (List Nat)) : Prop where
  lo : 3 ≤ ws.length
  hi : ws.length ≤ 5
  ch : ∀ w ∈ ws, (∀ n ∈ w, Ch n) ∧ w.length < 8
  lp : ∀ i j : Nat, i < j → j < ws.length → lev (ws.getD i []) (ws.getD j []) = price (ws.getD i []) (ws.getD j [])

def onInt (g : Int → Option AV) : AV → Option AV
  | .dat (.int k) => g k
  | _ => none
def unI : PyData → Int
  | .int i => i
  | _ => 0
def onTup (g : List Int → Option AV) : AV → Option AV
  | .dat (.tuple l) => g (l.map unI)
  | _ => none
theorem onTup_ints (g : List Int → Option AV) (t : List Int) : onTup g (.ints t) = g t := by
  show g ((t.map PyData.int).map unI) = g t
  congr 1
  rw [List.map_map]
  exact (List.map_congr_left fun _ _ => rfl).trans (List.map_id t)
theorem items_int (m : Nat) (g : Int → Option AV) : (itemsOf (.rng 0 (m : Int) 1)).filterMap (onInt g) = (List.range m).filterMap fun (k : Nat) => g (k : Int) := by
  simp only [itemsOf, up_size, Int.toNat_natCast, List.filterMap_map]
  congr 1
  funext k
  show g (0 + (k : Int) * 1) = g k
  rw [Int.zero_add, Int.mul_one]
theorem items_tup (l : List (List Int)) (g : List Int → Option AV) : (itemsOf (.dat (.list (tups l)))).filterMap (onTup g) = l.filterMap g := by
  show (((l.map fun x => PyData.tuple (x.map .int)).map AV.dat).filterMap (onTup g)) = _
  rw [List.map_map, List.filterMap_map]
  congr 1
  funext t
  exact onTup_ints g t
theorem mem_items_tup {l : List (List Int)} {d : AV} (h : d ∈ itemsOf (.dat (.list (tups l)))) : ∃ t ∈ l, d = .ints t := by
  obtain ⟨p, hp, rfl⟩ := List.mem_map.mp h
  obtain ⟨t, ht, rfl⟩ := List.mem_map.mp hp
  exact ⟨t, ht, rfl⟩
theorem mem_items_up {n : Nat} {d : AV} (h : d ∈ itemsOf (.rng 0 (n : Int) 1)) : ∃ k : Nat, k < n ∧ d = .int k := by
  obtain ⟨i, hi⟩ := List.mem_iff_getElem?.mp h
  obtain ⟨h1, h2⟩ := up_item hi
  exact ⟨i, h1, h2⟩
theorem mem_pairs {n : Nat} {t : List Int} : t ∈ pairsL n ↔ ∃ i j : Nat, t = [(i : Int), (j : Int)] ∧ i < j ∧ j < n := by
  unfold pairsL
  rw [List.mem_flatMap]
  constructor
  · rintro ⟨j, hj, ht⟩
    obtain ⟨i, hi, rfl⟩ := List.mem_map.mp ht
    exact ⟨i, j, rfl, List.mem_range.mp hi, List.mem_range.mp hj⟩
  · rintro ⟨i, j, rfl, h1, h2⟩
    exact ⟨j, List.mem_range.mpr h2, List.mem_map.mpr ⟨i, List.mem_range.mpr h1, rfl⟩⟩

def inn : AV → AV
  | .dat (.int j) => .rng 0 j 1
  | _ => .none
def prF : AV → AV → Option AV
  | .dat (.int j), .dat (.int i) => some (.ints [i, j])
  | _, _ => none
theorem pairs_items (n : Nat) : ((itemsOf (.rng 0 (n : Int) 1)).flatMap fun d => (itemsOf (inn d)).filterMap (prF d)) = (tups (pairsL n)).map AV.dat := by
  have e1 : itemsOf (.rng 0 (n : Int) 1) = (List.range n).map fun (k : Nat) => AV.int k := by
    simp only [itemsOf, up_size, Int.toNat_natCast]
    exact List.map_congr_left fun i _ => by show AV.int _ = AV.int _; simp
  have e2 : ∀ j : Nat, (itemsOf (inn (.int j))).filterMap (prF (.int j)) = (List.range j).map fun (i : Nat) => AV.ints [(i : Int), (j : Int)] := fun j => by
    show (itemsOf (.rng 0 (j : Int) 1)).filterMap (prF (.int j)) = _
    have : prF (.int j) = onInt fun i => some (.ints [i, (j : Int)]) := by
      funext d
      cases d with
      | dat p => cases p <;> rfl
      | raw v => rfl
      | rng a b c => rfl
    rw [this, items_int, ← List.filterMap_eq_map]
    rfl
  rw [e1, tups, pairsL, List.flatMap_map, List.map_map, List.map_flatMap]
  congr 1
  funext j
  rw [e2, List.map_map]
  rfl
theorem pairs_length : ∀ n : Nat, n ≤ 5 → (pairsL n).length < 100 := by decide

end Mine

end

noncomputable section
open PySem PySem.W PyProof.Rows PySem.Calls
set_option Elab.async false
set_option linter.unusedVariables false
set_option maxRecDepth 100000
namespace Mine

abbrev lawCx (prog : Program) (w : World) (S₀ : Shared) (A : Around) (L fx : Addr) (cd : Value) (fr : List (Addr × ACell)) : Cx := ⟨prog, w, S₀, A, envOfC "law" (scOf (pst 20)) L fx cd, fr⟩

section
variable {c : Cx} {σ : AS}
theorem far_item {f : Int → Int → Int} {n q : Nat} {m : Int → Option AV} {fa a : Addr} {t : List Int} {p1 p2 p3 p4 p5 p6 p7 p8 p9 p10 p11 : Pos} {k0 k1 k5 : Nat} (hf : FarOk m f n) (ht : t ∈ pairsL n) (hloc : σ.loc "tie" = some (.ints t)) (hm : (fa, .dict q m) ∈ σ.mem) (hcm : (a, .cell (some (.raw (.ref fa)))) ∈ σ.mem)
    (hc : c.env.cells.lookup ("far" : Str) = some a := by rfl) (hk : c.env.scope.kind = .function := by rfl) (hl : c.env.kindOf "far" = some .cell := by rfl) (hlt : c.env.kindOf "tie" = some .local := by rfl) :
    c.EV (.Subscript (.Name "far" p1) (.BinOp (.BinOp (.Subscript (.Name "tie" p2) (.Constant (.int 0) k0 p3) p4) .Mult (.Constant (.int 5) k5 p5) p6) .Add (.Subscript (.Name "tie" p7) (.Constant (.int 1) k1 p8) p9) p10) p11) σ (.int (tieLen f t)) σ := by
  obtain ⟨i, j, rfl, hij, hj⟩ := mem_pairs.mp ht
  have hfar : m ((i : Int) * 5 + (j : Int)) = some (.int (tieLen f [(i : Int), (j : Int)])) := by
    rw [show (i : Int) * 5 + (j : Int) = ((i * 5 + j : Nat) : Int) from by (first | lia | omega)]
    exact hf i j hij hj
  exact EV_sub (EV_cell hcm hc hk hl) (EV_bin (EV_bin (EV_sub (EV_local hloc hk hlt) EV_int (OP_itemTup (j := 0) rfl rfl)) EV_int (OP_mul (IntMulOk.of_right (by decide)))) (EV_sub (EV_local hloc hk hlt) EV_int (OP_itemTup (j := 1) rfl rfl)) OP_add) (OP_itemDict hm hfar)
end

section
variable {prog : Program} {w : World} {S₀ : Shared} {A : Around} {L fx : Addr} {cd : Value} {fr : List (Addr × ACell)} {mg mb : Str → Option Value} {P : AFl → AS → Prop} {rest : List Stmt}
def lawS2 (L fa : Addr) (q : Nat) (m : Int → Option AV) (n : Nat) (due : List Int) : AS :=
  mk [("count", .int n), ("due", .li due)] [(fa, .dict q m), (L + 1 + 1 + 1 + 1 + 1, .cell none), (L + 1 + 1 + 1 + 1, .cell none), (L + 1 + 1, .cell (some (.raw (.ref fa))))]
def lawS3 (L fa : Addr) (q : Nat) (m : Int → Option AV) (due : List Int) (X Y : List (List Int)) : AS :=
  mk [("due", .li due)] [(fa, .dict q m), (L + 1 + 1 + 1 + 1 + 1, .cell (some (.dat (.list (tups Y))))), (L + 1 + 1 + 1 + 1, .cell (some (.dat (.list (tups X))))), (L + 1 + 1, .cell (some (.raw (.ref fa))))]
theorem law_d (G : Gd S₀ mg mb) (hA : AOk A 5) (F : FrOk (lawCx prog w S₀ A L fx cd fr)) {f : Int → Int → Int} {n q : Nat} {m : Int → Option AV} {fa : Addr} (hlo : 3 ≤ n) (hhi : n ≤ 5) (hf : FarOk m f n) {X Y : List (List Int)} (K : LawOk f n X Y) :
    (lawCx prog w S₀ A L fx cd fr).EX ((bodyOf (pst 20)).drop 7) (lawS2 L fa q m n (dueL f n 7)) (fun af _ => af = .ret (.bool true)) := by
  obtain ⟨r1, hr1, e1⟩ := K.net1
  obtain ⟨r2, hr2, e2⟩ := K.net2
  have hdl : (dueL f n 7).length < 1000 := by rw [← K.due1.length_eq, List.length_map]; have := K.len1; (first | lia | omega)
  refine EX_assignC (a := L + 1 + 1 + 1 + 1) (EV.ep (EV_fn (i := 18) G (by decide) (EV_gl G rfl) (EVs_cons (EV_cell (a := L + 1 + 1) (.tail _ (.tail _ (.tail _ (.head _))))) (EVs_cons (EV_local rfl) (EVs_cons EV_int (EVs_cons EV_int EVs_nil))))
    (by exact net_ok (c := lawCx prog w S₀ A L fx cd fr) (others := [(L + 1 + 1 + 1 + 1 + 1, .cell none), (L + 1 + 1 + 1 + 1, .cell none), (L + 1 + 1, .cell (some (.raw (.ref fa))))]) G (hA.less (by decide)) hf (.inl rfl) hlo hhi (by decide) (by (first | lia | omega)) hr1 (List.Perm.refl _)))) ?_
  rintro _ _ ⟨rfl, rfl⟩
  refine ⟨none, _, .tail (.tail .head), ?_⟩
  rw [e1]
  refine EX_assignC (a := L + 1 + 1 + 1 + 1 + 1) (EV.ep (EV_fn (i := 18) G (by decide) (EV_gl G rfl) (EVs_cons (EV_cell (a := L + 1 + 1) (.tail _ (.tail _ (.tail _ (.head _))))) (EVs_cons (EV_local rfl) (EVs_cons (EV_bin (EV_local rfl) EV_int OP_sub) (EVs_cons (EV_una EV_int OP_neg) EVs_nil))))
    (by exact net_ok (c := lawCx prog w S₀ A L fx cd fr) (others := [(L + 1 + 1 + 1 + 1 + 1, .cell none), (L + 1 + 1 + 1 + 1, .cell (some (.dat (.list (tups X))))), (L + 1 + 1, .cell (some (.raw (.ref fa))))]) G (hA.less (by decide)) hf (.inr rfl) hlo hhi (by (first | lia | omega)) (by (first | lia | omega)) hr2 (List.Perm.refl _)))) ?_
  rintro _ _ ⟨rfl, rfl⟩
  refine ⟨none, _, .tail .head, ?_⟩
  rw [e2]
  have hu1 : A.units + 1 < cLine := by have := hA.u; (first | lia | omega)
  -- both nets
  refine EX_for (src := .dat (.list [.list (tups X), .list (tups Y)])) (J := fun k σ' => σ' = lawS3 L fa q m (dueL f n 7) X Y)
    (EV_list (ds := [.list (tups X), .list (tups Y)]) (EVs_cons (EV_cell (a := L + 1 + 1 + 1 + 1) (.tail _ (.tail _ (.head _)))) (EVs_cons (EV_cell (a := L + 1 + 1 + 1 + 1 + 1) (.tail _ (.head _))) EVs_nil))) trivial hA.h Own_name
    (Le.mk (l := [("due", .li (dueL f n 7))]) ⟨rfl, trivial⟩) rfl ?_ ?_
  · rintro fr' k d _ rfl hd
    obtain ⟨Z, rfl, hZt, hZp, hZl⟩ : ∃ Z, d = .dat (.list (tups Z)) ∧ (∀ t ∈ Z, t ∈ pairsL n) ∧ (Z.map (tieLen f)).Perm (dueL f n 7) ∧ Z.length < 100 := by
      match k, hd with
      | 0, hd => exact ⟨X, (Option.some.inj hd).symm, K.ties1, K.due1, K.len1⟩
      | 1, hd => exact ⟨Y, (Option.some.inj hd).symm, K.ties2, K.due2, K.len2⟩
    refine ⟨_, Asg_name, ?_⟩
    refine EX_assignComp (cl := [("far", L + 1 + 1)]) (onTup fun t => some (.int (tieLen f t))) (EV_local rfl) trivial hA.h (by simp [itemsOf, tups_length]; (first | lia | omega)) ?_ ?_
    · intro C fr'' d hd
      obtain ⟨t, ht, rfl⟩ := mem_items_tup hd
      rw [onTup_ints]
      exact ⟨rfl, far_item hf (hZt t ht) rfl (.head _) (.tail _ (.tail _ (.tail _ (.head _))))⟩
    · intro D
      have e3 : (itemsOf (.dat (.list (tups Z)))).filterMap (onTup fun t => some (.int (tieLen f t))) = intsA (Z.map (tieLen f)) := by
        rw [items_tup, intsA, List.map_map, ← List.filterMap_eq_map]; rfl
      rw [e3]
      let mem4 : List (Addr × ACell) := [(fa, .dict q m), (L + 1 + 1 + 1 + 1 + 1, .cell (some (.dat (.list (tups Y))))), (L + 1 + 1 + 1 + 1, .cell (some (.dat (.list (tups X))))), (L + 1 + 1, .cell (some (.raw (.ref fa))))]
      refine EX_le (σ' := mk [("due", .li (dueL f n 7)), ("lengths", .raw (.ref D))] ((D, .list (intsA (Z.map (tieLen f)))) :: mem4)) (Le.mk ⟨rfl, rfl, trivial⟩) ?_
      refine EX_if (v := false) (σ₁ := mk [("due", .li (dueL f n 7)), ("lengths", .raw (.ref D))] mem4) (TV_eq (TV_cmp (σ₁ := mk [("due", .li (dueL f n 7)), ("lengths", .raw (.ref D))] mem4) (d₁ := .dat (.tuple [.list [], .list []])) (EV_fnP (i := 2) G (by decide) (EV_gl G rfl) (EVsP_last (EV_local rfl) (EP_callT (EV_bl G rfl) (EVs_cons (EV_local rfl) EVs_nil) (OPsP_listCopy (by rw [List.length_map]; (first | lia | omega))))) ?_)
        (EV_tuple (ds := [.list [], .list []]) (EVs_cons (EV_list (ds := []) EVs_nil) (EVs_cons (EV_list (ds := []) EVs_nil) EVs_nil))) (OP_ne (by rfl) (by rfl) ?_)) (by rfl)) (fun h => by cases h) (fun _ => EX_nil (EX_nil ?_))
      · rintro _ _ ⟨d₂, rfl, b, rfl, rfl⟩
        have e4 : ((dueL f n 7).map PyData.int).map AV.dat = intsA (dueL f n 7) := by rw [List.map_map]; rfl
        rw [e4]
        exact unord_ok (c := (lawCx prog w S₀ A L fx cd fr).on fr') (others := mem4) (xs := Z.map (tieLen f)) (ys := dueL f n 7) G (hA.less (by decide)) (List.Perm.swap _ _ _) hZp (by rw [List.length_map]; (first | lia | omega))
      · exact Nat.lt_of_le_of_lt (Nat.add_le_add_left (Nat.min_le_left _ _) _) (by have := hA.u; show A.units + 2 < cLine; (first | lia | omega))
      · exact ⟨_, rfl, Le.mk ⟨rfl, trivial⟩⟩
  · rintro _ rfl
    let mem4 : List (Addr × ACell) := [(fa, .dict q m), (L + 1 + 1 + 1 + 1 + 1, .cell (some (.dat (.list (tups Y))))), (L + 1 + 1 + 1 + 1, .cell (some (.dat (.list (tups X))))), (L + 1 + 1, .cell (some (.raw (.ref fa))))]
    refine EX_assignT (d₁ := .list (tups (mrg X Y).1)) (d₂ := .list (tups (mrg X Y).2)) hA.h (EV_fn (i := 1) G (by decide) (EV_gl G rfl) (EVs_cons (EV_cell (a := L + 1 + 1 + 1 + 1) (.tail _ (.tail _ (.head _)))) (EVs_cons (EV_cell (a := L + 1 + 1 + 1 + 1 + 1) (.tail _ (.head _))) EVs_nil))
      (by exact sld_ok (c := lawCx prog w S₀ A L fx cd fr) G (hA.less (by decide)) F K.nd1 K.nd2 (by have := K.len1; (first | lia | omega)) (by have := K.len2; (first | lia | omega)))) ?_
    have hgone := K.gone
    have hcome := K.come
    have hsame := K.same
    have hg1 : ∀ t ∈ (mrg X Y).1, t ∈ pairsL n := fun t ht => K.ties1 t (by rw [hgone] at ht; exact (List.mem_filter.mp ht).1)
    have hg2 : ∀ t ∈ (mrg X Y).2, t ∈ pairsL n := fun t ht => K.ties2 t (by rw [hcome] at ht; exact (List.mem_filter.mp ht).1)
    have hl1 : (mrg X Y).1.length < 100 := by rw [hgone]; have := List.length_filter_le (fun t => !Y.contains t) X; have := K.len1; (first | lia | omega)
    have hl2 : (mrg X Y).2.length < 100 := by rw [hcome]; have := List.length_filter_le (fun t => !X.contains t) Y; have := K.len2; (first | lia | omega)
    generalize (mrg X Y).1 = gone at *
    generalize (mrg X Y).2 = come at *
    have hdp : ∀ a b : List (List Int), A.units + min (PyData.depth (.list (tups a))) (PyData.depth (.list (tups b))) < cLine := fun a b => by
      refine Nat.lt_of_le_of_lt (Nat.add_le_add_left (Nat.min_le_left _ _) _) ?_
      have := hA.u
      rw [PyData.depth]
      have := depthAll_tups a
      (first | lia | omega)
    have hfil : ∀ (Z V : List (List Int)), (itemsOf (.dat (.list (tups Z)))).filterMap (onTup fun t => if V.contains t then none else some (.ints t)) = (tups (Z.filter fun t => !V.contains t)).map AV.dat := fun Z V => by
      rw [items_tup]
      induction Z with
      | nil => rfl
      | cons a Z ih =>
        rw [List.filterMap_cons, List.filter_cons, ih]
        cases V.contains a <;> rfl
    refine EX_le (σ' := mk [("gone", .dat (.list (tups gone))), ("come", .dat (.list (tups come)))] mem4) (Le.mk ⟨rfl, rfl, trivial⟩) ?_
    have hu2 : ∀ (V : List (List Int)) (t : List Int), A.units + 1 + min (PyData.depthAll (tups V)) (PyData.depth (.tuple (t.map .int))) < cLine := fun V t => by
      have := hA.u
      have := depthAll_tups V
      (first | lia | omega)
    refine EX_if (v := false) (σ₁ := mk [("gone", .dat (.list (tups gone))), ("come", .dat (.list (tups come)))] mem4) (TV_eq (TV_cmp (EV_local rfl) (EV_freezeP (ds := tups (X.filter fun t => !Y.contains t)) (EP_comp (cl := [("second", L + 1 + 1 + 1 + 1 + 1)]) (onTup fun t => if Y.contains t then none else some (.ints t)) (EV_cell (a := L + 1 + 1 + 1 + 1) (.tail _ (.tail _ (.head _)))) trivial hA.h (by simp [itemsOf, tups_length]; have := K.len1; (first | lia | omega)) ?_) ?_)
      (OP_ne (by rw [PyData.canLay0]; exact canLayAll_tups _) (by rw [PyData.canLay0]; exact canLayAll_tups _) (hdp _ _))) ?_) (fun h => by cases h) (fun _ => EX_nil ?_)
    · intro C fr' d hd
      obtain ⟨t, ht, rfl⟩ := mem_items_tup hd
      rw [onTup_ints]
      cases hcon : Y.contains t with
      | true =>
        rw [if_pos rfl]
        exact TV_eq (TV_cmp (EV_local rfl) (EV_cell (a := L + 1 + 1 + 1 + 1 + 1) (.tail _ (.head _))) (OP_notInList (canLayAll_tups _) (canLay_tup _) (hu2 Y t))) (by rw [anyT, hcon]; rfl)
      | false =>
        rw [if_neg (by decide)]
        exact ⟨TV_eq (TV_cmp (EV_local rfl) (EV_cell (a := L + 1 + 1 + 1 + 1 + 1) (.tail _ (.head _))) (OP_notInList (canLayAll_tups _) (canLay_tup _) (hu2 Y t))) (by rw [anyT, hcon]; rfl), EV_local rfl⟩
    · rintro d σ' ⟨D, rfl, rfl⟩
      exact ⟨D, rfl, by rw [hfil]⟩
    · rw [PyData.eqv, eqvAll_tups, hgone]; simp
    refine EX_if (v := false) (σ₁ := mk [("gone", .dat (.list (tups gone))), ("come", .dat (.list (tups come)))] mem4) (TV_eq (TV_cmp (EV_local rfl) (EV_freezeP (ds := tups (Y.filter fun t => !X.contains t)) (EP_comp (cl := [("first", L + 1 + 1 + 1 + 1)]) (onTup fun t => if X.contains t then none else some (.ints t)) (EV_cell (a := L + 1 + 1 + 1 + 1 + 1) (.tail _ (.head _))) trivial hA.h (by simp [itemsOf, tups_length]; have := K.len2; (first | lia | omega)) ?_) ?_)
      (OP_ne (by rw [PyData.canLay0]; exact canLayAll_tups _) (by rw [PyData.canLay0]; exact canLayAll_tups _) (hdp _ _))) ?_) (fun h => by cases h) (fun _ => EX_nil ?_)
    · intro C fr' d hd
      obtain ⟨t, ht, rfl⟩ := mem_items_tup hd
      rw [onTup_ints]
      cases hcon : X.contains t with
      | true =>
        rw [if_pos rfl]
        exact TV_eq (TV_cmp (EV_local rfl) (EV_cell (a := L + 1 + 1 + 1 + 1) (.tail _ (.tail _ (.head _)))) (OP_notInList (canLayAll_tups _) (canLay_tup _) (hu2 X t))) (by rw [anyT, hcon]; rfl)
      | false =>
        rw [if_neg (by decide)]
        exact ⟨TV_eq (TV_cmp (EV_local rfl) (EV_cell (a := L + 1 + 1 + 1 + 1) (.tail _ (.tail _ (.head _)))) (OP_notInList (canLayAll_tups _) (canLay_tup _) (hu2 X t))) (by rw [anyT, hcon]; rfl), EV_local rfl⟩
    · rintro d σ' ⟨D, rfl, rfl⟩
      exact ⟨D, rfl, by rw [hfil]⟩
    · rw [PyData.eqv, eqvAll_tups, hcome]; simp
    have hlen : ∀ Z : List (List Int), (itemsOf (.dat (.list (tups Z)))).filterMap (onTup fun t => some (.int (tieLen f t))) = intsA (Z.map (tieLen f)) := fun Z => by
      rw [items_tup, intsA, List.map_map, ← List.filterMap_eq_map]; rfl
    refine EX_assignComp (cl := [("far", L + 1 + 1)]) (onTup fun t => some (.int (tieLen f t))) (EV_local rfl) trivial hA.h (by simp [itemsOf, tups_length]; (first | lia | omega)) ?_ ?_
    · intro C fr'' d hd
      obtain ⟨t, ht, rfl⟩ := mem_items_tup hd
      rw [onTup_ints]
      exact ⟨rfl, far_item hf (hg1 t ht) rfl (.head _) (.tail _ (.tail _ (.tail _ (.head _))))⟩
    intro D1
    rw [hlen]
    refine EX_assignComp (cl := [("far", L + 1 + 1)]) (onTup fun t => some (.int (tieLen f t))) (EV_local rfl) trivial hA.h (by simp [itemsOf, tups_length]; (first | lia | omega)) ?_ ?_
    · intro C fr'' d hd
      obtain ⟨t, ht, rfl⟩ := mem_items_tup hd
      rw [onTup_ints]
      exact ⟨rfl, far_item hf (hg2 t ht) rfl (.tail _ (.head _)) (.tail _ (.tail _ (.tail _ (.tail _ (.head _)))))⟩
    intro D2
    rw [hlen]
    refine EX_le (σ' := mk [("taken", .raw (.ref D1)), ("given", .raw (.ref D2))] ((D2, .list (intsA (come.map (tieLen f)))) :: (D1, .list (intsA (gone.map (tieLen f)))) :: mem4)) (Le.mk ⟨rfl, rfl, trivial⟩) ?_
    refine EX_ret (EV_eq (EV_cmp (d₁ := .dat (.tuple [.list [], .list []])) (EV_fn (i := 2) G (by decide) (EV_gl G rfl) (EVs_cons (EV_local rfl) (EVs_cons (EV_local rfl) EVs_nil))
      (by exact unord_ok (c := lawCx prog w S₀ A L fx cd fr) (others := mem4) (xs := gone.map (tieLen f)) (ys := come.map (tieLen f)) G (hA.less (by decide)) (List.Perm.swap _ _ _) hsame (by rw [List.length_map]; (first | lia | omega))))
      (EV_tuple (ds := [.list [], .list []]) (EVs_cons (EV_list (ds := []) EVs_nil) (EVs_cons (EV_list (ds := []) EVs_nil) EVs_nil)))
      (OP_eq (by rfl) (by rfl) (by exact Nat.lt_of_le_of_lt (Nat.add_le_add_left (Nat.min_le_left _ _) _) (by have := hA.u; show A.units + 2 < cLine; (first | lia | omega))))) (by rfl)) rfl
end
end Mine

end

noncomputable section
open PySem PySem.W PyProof.Rows PySem.Calls
set_option Elab.async false
set_option linter.unusedVariables false
set_option maxRecDepth 100000
namespace Mine

theorem partsM_le (n : Nat) (t : List (List Int)) : partsM n t ≤ n := by
  have := List.length_filter_le (fun (k : Nat) => (partsL n t).contains (k : Int)) (List.range n)
  rw [List.length_range] at this
  exact this
theorem dueL_succ (f : Int → Int → Int) (n k : Nat) : dueL f n (k + 1) = dueL f n k ++ List.replicate ((partsM n (aheadL f n k) : Int) - partsM n (behindL f n k)).toNat (k : Int) := by
  unfold dueL
  rw [List.range_succ, List.flatMap_append]
  simp
theorem dueL_length (f : Int → Int → Int) (n k : Nat) : (dueL f n k).length ≤ n * k := by
  induction k with
  | zero => simp [dueL]
  | succ k ih =>
    rw [dueL_succ, List.length_append, List.length_replicate, Nat.mul_succ]
    have := partsM_le n (aheadL f n k)
    omega
theorem ties_filter {n : Nat} (hn : n ≤ 10) (p : List Int → Bool) : TiesOk n ((pairsL n).filter p) := fun t ht => by
  obtain ⟨i, j, rfl, h1, h2⟩ := mem_pairs.mp (List.mem_filter.mp ht).1
  exact ⟨i, j, rfl, by (first | lia | omega), h2⟩

section
variable {prog : Program} {w : World} {S₀ : Shared} {A : Around} {L fx : Addr} {cd : Value} {fr : List (Addr × ACell)} {mg mb : Str → Option Value} {P : AFl → AS → Prop} {rest : List Stmt}
def lawS15 (L fa : Addr) (q : Nat) (m : Int → Option AV) (n : Nat) : AS :=
  mk [("count", .int n), ("pairs", .dat (.list (tups (pairsL n))))] [(fa, .dict q m), (L + 1 + 1 + 1 + 1 + 1, .cell none), (L + 1 + 1 + 1 + 1, .cell none), (L + 1 + 1 + 1, .cell none), (L + 1 + 1, .cell (some (.raw (.ref fa))))]
theorem law_c (G : Gd S₀ mg mb) (hA : AOk A 5) (F : FrOk (lawCx prog w S₀ A L fx cd fr)) {f : Int → Int → Int} {n q : Nat} {m : Int → Option AV} {fa : Addr} (hlo : 3 ≤ n) (hhi : n ≤ 5) (hf : FarOk m f n) {X Y : List (List Int)} (K : LawOk f n X Y) :
    (lawCx prog w S₀ A L fx cd fr).EX ((bodyOf (pst 20)).drop 5) (lawS15 L fa q m n) (fun af _ => af = .ret (.bool true)) := by
  have hpl := pairs_length n hhi
  refine EX_assign (EV_list (ds := []) EVs_nil) ?_
  refine EX_for (src := .rng 0 ((7 : Nat) : Int) 1) (J := fun k σ' => ∃ o, σ' = mk [("count", .int n), ("pairs", .dat (.list (tups (pairsL n)))), ("due", .li (dueL f n k))] [(fa, .dict q m), (L + 1 + 1 + 1 + 1 + 1, .cell none), (L + 1 + 1 + 1 + 1, .cell none), (L + 1 + 1 + 1, .cell o), (L + 1 + 1, .cell (some (.raw (.ref fa))))])
    (EV_callT (EV_bl G rfl) (EVs_cons EV_int EVs_nil) OPs_range1) (up_ok (by decide)) hA.h Own_name
    (Le.mk (l := [("count", .int n), ("pairs", .dat (.list (tups (pairsL n)))), ("due", .li (dueL f n 0))]) ⟨rfl, rfl, rfl, trivial⟩) ⟨none, rfl⟩ ?_ ?_
  · rintro fr' k d _ ⟨o, rfl⟩ hd
    obtain ⟨hk, rfl⟩ := up_item hd
    refine ⟨_, Asg_cell (.tail (.tail (.tail .head))), ?_⟩
    let mem5 : List (Addr × ACell) := [(fa, .dict q m), (L + 1 + 1 + 1 + 1 + 1, .cell none), (L + 1 + 1 + 1 + 1, .cell none), (L + 1 + 1 + 1, .cell (some (.int k))), (L + 1 + 1, .cell (some (.raw (.ref fa))))]
    have hlen : (itemsOf (.dat (.list (tups (pairsL n))))).length < 10000 := by simp [itemsOf, tups_length]; (first | lia | omega)
    have hfil : ∀ (p : List Int → Bool), (itemsOf (.dat (.list (tups (pairsL n))))).filterMap (onTup fun t => if p t then some (.ints t) else none) = (tups ((pairsL n).filter p)).map AV.dat := fun p => by
      rw [items_tup]
      induction pairsL n with
      | nil => rfl
      | cons a Z ih =>
        rw [List.filterMap_cons, List.filter_cons, ih]
        cases p a <;> rfl
    have hfl : ∀ p : List Int → Bool, ((pairsL n).filter p).length < 1000 := fun p => by have := List.length_filter_le p (pairsL n); (first | lia | omega)
    have h1 := partsM_le n (aheadL f n k)
    have h2 := partsM_le n (behindL f n k)
    refine EX_assign (d := .int (partsM n (aheadL f n k))) (EV_fn (i := 19) G (by decide) (EV_gl G rfl) (EVs_cons (EV_local rfl) (EVs_cons (EV_freezeP (ds := tups (aheadL f n k)) (EP_comp (cl := [("length", L + 1 + 1 + 1), ("far", L + 1 + 1)]) (onTup fun t => if decide (tieLen f t < k) then some (.ints t) else none) (EV_local rfl) trivial hA.h hlen ?_) ?_) EVs_nil))
      (by exact parts_ok (c := (lawCx prog w S₀ A L fx cd fr).on fr') G (hA.less (by decide)) (by (first | lia | omega)) (ties_filter (by (first | lia | omega)) _) (hfl _))) ?_
    · intro C fr'' d hd
      obtain ⟨t, ht, rfl⟩ := mem_items_tup hd
      rw [onTup_ints]
      cases hcon : decide (tieLen f t < (k : Int)) with
      | true =>
        rw [if_pos rfl]
        exact ⟨TV_eq (TV_cmp (far_item hf ht rfl (.head _) (.tail _ (.tail _ (.tail _ (.tail _ (.head _)))))) (EV_cell (a := L + 1 + 1 + 1) (.tail _ (.tail _ (.tail _ (.head _))))) OP_lt) hcon, EV_local rfl⟩
      | false =>
        rw [if_neg (by decide)]
        exact TV_eq (TV_cmp (far_item hf ht rfl (.head _) (.tail _ (.tail _ (.tail _ (.tail _ (.head _)))))) (EV_cell (a := L + 1 + 1 + 1) (.tail _ (.tail _ (.tail _ (.head _))))) OP_lt) hcon
    · rintro d σ' ⟨D, rfl, rfl⟩
      exact ⟨D, rfl, by rw [hfil (fun t => decide (tieLen f t < k))]; rfl⟩
    refine EX_assign (d := .int (partsM n (behindL f n k))) (EV_fn (i := 19) G (by decide) (EV_gl G rfl) (EVs_cons (EV_local rfl) (EVs_cons (EV_freezeP (ds := tups (behindL f n k)) (EP_comp (cl := [("length", L + 1 + 1 + 1), ("far", L + 1 + 1)]) (onTup fun t => if decide (tieLen f t ≤ k) then some (.ints t) else none) (EV_local rfl) trivial hA.h hlen ?_) ?_) EVs_nil))
      (by exact parts_ok (c := (lawCx prog w S₀ A L fx cd fr).on fr') G (hA.less (by decide)) (by (first | lia | omega)) (ties_filter (by (first | lia | omega)) _) (hfl _))) ?_
    · intro C fr'' d hd
      obtain ⟨t, ht, rfl⟩ := mem_items_tup hd
      rw [onTup_ints]
      cases hcon : decide (tieLen f t ≤ (k : Int)) with
      | true =>
        rw [if_pos rfl]
        exact ⟨TV_eq (TV_cmp (far_item hf ht rfl (.head _) (.tail _ (.tail _ (.tail _ (.tail _ (.head _)))))) (EV_cell (a := L + 1 + 1 + 1) (.tail _ (.tail _ (.tail _ (.head _))))) OP_le) hcon, EV_local rfl⟩
      | false =>
        rw [if_neg (by decide)]
        exact TV_eq (TV_cmp (far_item hf ht rfl (.head _) (.tail _ (.tail _ (.tail _ (.tail _ (.head _)))))) (EV_cell (a := L + 1 + 1 + 1) (.tail _ (.tail _ (.tail _ (.head _))))) OP_le) hcon
    · rintro d σ' ⟨D, rfl, rfl⟩
      exact ⟨D, rfl, by rw [hfil (fun t => decide (tieLen f t ≤ k))]; rfl⟩
    have hdl := dueL_length f n k
    have hdl' : n * k ≤ 5 * 7 := Nat.mul_le_mul hhi (by (first | lia | omega))
    refine EX_assign (d := .li (dueL f n (k + 1))) (EV_eq (EV_bin (EV_local rfl) (EV_mulList (n := (partsM n (aheadL f n k) : Int) - partsM n (behindL f n k)) (EV_cell (a := L + 1 + 1 + 1) (.tail _ (.tail _ (.tail _ (.head _))))) (fun fr'' => EV_bin (EV_local rfl) (EV_local rfl) OP_sub) (by (first | lia | omega)) (by (first | lia | omega))) (OP_addList (by rw [List.length_map, List.length_replicate]; (first | lia | omega)))) ?_) (EX_nil ?_)
    · rw [dueL_succ, AV.li, List.map_append, List.map_replicate]
    · exact ⟨_, ⟨some (.int k), rfl⟩, Le.mk ⟨rfl, rfl, rfl, trivial⟩⟩
  · rintro _ ⟨o, rfl⟩
    refine EX_le (σ' := lawS2 L fa q m n (dueL f n 7)) (Le.mk ⟨rfl, rfl, trivial⟩ ?_) (law_d G hA F hlo hhi hf K)
    exact (((((List.nil_sublist _).cons_cons _).cons _).cons_cons _).cons_cons _).cons_cons _
end
end Mine

end

noncomputable section
open PySem PySem.W PyProof.Rows PySem.Calls
set_option Elab.async false
set_option linter.unusedVariables false
set_option maxRecDepth 100000
namespace Mine

def keyOf (p : List Int) : Int := p.getD 0 0 * 5 + p.getD 1 0
def mfar (ws : List (List Nat)) (ps : List (List Int)) : Int → Option AV := ps.foldl (fun m p => fun y => if y = keyOf p then some (.int (tieLen (farL ws) p)) else m y) (fun _ => none)
theorem mfar_snoc (ws : List (List Nat)) (ps : List (List Int)) (p : List Int) : mfar ws (ps ++ [p]) = fun y => if y = keyOf p then some (.int (tieLen (farL ws) p)) else mfar ws ps y := by
  unfold mfar; rw [List.foldl_append]; rfl
theorem mfar_at (ws : List (List Nat)) : ∀ (ps : List (List Int)), (∀ p ∈ ps, ∀ p' ∈ ps, keyOf p = keyOf p' → p = p') → ∀ p ∈ ps, mfar ws ps (keyOf p) = some (.int (tieLen (farL ws) p)) := by
  intro ps
  suffices ∀ l : List (List Int), (∀ p ∈ l, ∀ p' ∈ l, keyOf p = keyOf p' → p = p') → ∀ p ∈ l, mfar ws l.reverse (keyOf p) = some (.int (tieLen (farL ws) p)) by
    intro h p hp
    have := this ps.reverse (fun p hp p' hp' => h p (List.mem_reverse.mp hp) p' (List.mem_reverse.mp hp')) p (List.mem_reverse.mpr hp)
    rwa [List.reverse_reverse] at this
  intro l
  induction l with
  | nil => intro _ p hp; cases hp
  | cons a l ih =>
    intro h p hp
    rw [List.reverse_cons, mfar_snoc]
    by_cases e : keyOf p = keyOf a
    · have := h p hp a (.head _) e
      subst this
      simp
    · simp only [if_neg e]
      rcases List.mem_cons.mp hp with rfl | hp
      · exact absurd rfl e
      · exact ih (fun p hp p' hp' => h p (.tail _ hp) p' (.tail _ hp')) p hp
theorem far_ok {ws : List (List Nat)} (h : ws.length ≤ 5) : FarOk (mfar ws (pairsL ws.length)) (farL ws) ws.length := fun i j hij hj => by
  have hm : [(i : Int), (j : Int)] ∈ pairsL ws.length := mem_pairs.mpr ⟨i, j, rfl, hij, hj⟩
  have := mfar_at ws (pairsL ws.length) (fun p hp p' hp' e => by
    obtain ⟨i, j, rfl, h1, h2⟩ := mem_pairs.mp hp
    obtain ⟨i', j', rfl, h3, h4⟩ := mem_pairs.mp hp'
    have e' : (i : Int) * 5 + (j : Int) = (i' : Int) * 5 + (j' : Int) := e
    have e1 : i = i' := by (first | lia | omega)
    have e2 : j = j' := by (first | lia | omega)
    rw [e1, e2]) _ hm
  have e : keyOf [(i : Int), (j : Int)] = ((i * 5 + j : Nat) : Int) := by show (i : Int) * 5 + (j : Int) = _; (first | lia | omega)
  rw [e] at this
  exact this

def lawS1 (L : Addr) (ws : List (List Nat)) : AS :=
  mk [("names", .dat (.list (strsD ws))), ("count", .int ws.length), ("pairs", .dat (.list (tups (pairsL ws.length))))] [(L + 1 + 1 + 1 + 1 + 1, .cell none), (L + 1 + 1 + 1 + 1, .cell none), (L + 1 + 1 + 1, .cell none), (L + 1 + 1, .cell none)]
section
variable {prog : Program} {w : World} {S₀ : Shared} {A : Around} {L fx : Addr} {cd : Value} {fr : List (Addr × ACell)} {mg mb : Str → Option Value} {P : AFl → AS → Prop} {rest : List Stmt}
theorem law_b (G : Gd S₀ mg mb) (hA : AOk A 5) (F : FrOk (lawCx prog w S₀ A L fx cd fr)) {ws : List (List Nat)} (hlo : 3 ≤ ws.length) (hhi : ws.length ≤ 5) (hch : ∀ w ∈ ws, (∀ n ∈ w, Ch n) ∧ w.length < 8)
    (hlp : ∀ i j : Nat, i < j → j < ws.length → lev (ws.getD i []) (ws.getD j []) = price (ws.getD i []) (ws.getD j [])) {X Y : List (List Int)} (K : LawOk (farL ws) ws.length X Y) :
    (lawCx prog w S₀ A L fx cd fr).EX ((bodyOf (pst 20)).drop 3) (lawS1 L ws) (fun af _ => af = .ret (.bool true)) := by
  have hpl := pairs_length ws.length hhi
  refine EX_assignC (a := L + 1 + 1) EP_dictM ?_
  rintro _ _ ⟨fa, rfl, rfl⟩
  refine ⟨none, _, .tail (.tail (.tail (.tail .head))), ?_⟩
  refine EX_for (src := .dat (.list (tups (pairsL ws.length)))) (J := fun k σ' => σ' = mk [("names", .dat (.list (strsD ws))), ("count", .int ws.length), ("pairs", .dat (.list (tups (pairsL ws.length))))] [(fa, .dict k (mfar ws ((pairsL ws.length).take k))), (L + 1 + 1 + 1 + 1 + 1, .cell none), (L + 1 + 1 + 1 + 1, .cell none), (L + 1 + 1 + 1, .cell none), (L + 1 + 1, .cell (some (.raw (.ref fa))))])
    (EV_local rfl) trivial hA.h Own_tuple (Le.mk (l := [("names", .dat (.list (strsD ws))), ("count", .int ws.length), ("pairs", .dat (.list (tups (pairsL ws.length))))]) ⟨rfl, rfl, rfl, trivial⟩) rfl ?_ ?_
  · rintro fr' k d _ rfl hd
    have hd' : (tups (pairsL ws.length))[k]?.map AV.dat = some d := by rw [← List.getElem?_map]; exact hd
    have hk : k < (pairsL ws.length).length := by
      rcases Nat.lt_or_ge k (pairsL ws.length).length with h | h
      · exact h
      · rw [List.getElem?_eq_none (by rw [tups_length]; exact h)] at hd'; cases hd'
    rw [tups_get hk] at hd'
    obtain ⟨i, j, hij, hlt, hj⟩ := mem_pairs.mp (List.getElem_mem hk)
    obtain rfl : AV.dat (.tuple [.int (i : Nat), .int (j : Nat)]) = d := by
      have := Option.some.inj hd'
      rw [← this, hij]; rfl
    have htk : mfar ws ((pairsL ws.length).take (k + 1)) = fun y => if y = keyOf [(i : Int), (j : Int)] then some (.int (tieLen (farL ws) [(i : Int), (j : Int)])) else mfar ws ((pairsL ws.length).take k) y := by
      rw [List.take_add_one, List.getElem?_eq_getElem hk, hij, Option.toList_some, mfar_snoc]
    have hg : ∀ q : Nat, q < ws.length → (strsD ws)[((q : Int)).toNat]? = some (.str (sOf (ws.getD q []))) := fun q hq => by
      rw [Int.toNat_natCast, strsD, List.getElem?_map, List.getD_eq_getElem?_getD, List.getElem?_eq_getElem hq]; rfl
    have hw : ∀ q : Nat, q < ws.length → (∀ n ∈ ws.getD q [], Ch n) ∧ (ws.getD q []).length < 8 := fun q hq => hch _ (by rw [List.getD_eq_getElem?_getD, List.getElem?_eq_getElem hq]; exact List.getElem_mem hq)
    have hi : i < ws.length := by (first | lia | omega)
    refine ⟨_, Asg_tuple2 hA.h, ?_⟩
    refine EX_setDict (n := k) (m := mfar ws ((pairsL ws.length).take k)) (k := keyOf [(i : Int), (j : Int)]) (d := .int (tieLen (farL ws) [(i : Int), (j : Int)])) (EV_fn (i := 13) G (by decide) (EV_gl G rfl) (EVs_cons (EV_sub (EV_local rfl) (EV_local rfl) (OP_itemList (by (first | lia | omega)) (hg i hi) (by (first | lia | omega)))) (EVs_cons (EV_sub (EV_local rfl) (EV_local rfl) (OP_itemList (by (first | lia | omega)) (hg j hj) (by (first | lia | omega)))) (EVs_cons EV_int EVs_nil)))
      (by exact lev_ok (c := (lawCx prog w S₀ A L fx cd fr).on fr') G (hA.less (by decide)) (hw i hi).1 (hw j hj).1 (by have := (hw i hi).2; (first | lia | omega)) (by have := (hw j hj).2; (first | lia | omega))))
      (EV_cell (a := L + 1 + 1) (.tail _ (.tail _ (.tail _ (.tail _ (.head _)))))) (EV_bin (EV_bin (EV_local rfl) EV_int (OP_mul (IntMulOk.of_right (by decide)))) (EV_local rfl) OP_add) (by (first | lia | omega)) .head ?_
    refine EX_if (v := false) (σ₁ := ⟨_, _⟩) (TV_eq (TV_cmp (EV_sub (EV_cell (a := L + 1 + 1) (.tail _ (.tail _ (.tail _ (.tail _ (.head _)))))) (EV_bin (EV_bin (EV_local rfl) EV_int (OP_mul (IntMulOk.of_right (by decide)))) (EV_local rfl) OP_add) (OP_itemDict (d := .int (tieLen (farL ws) [(i : Int), (j : Int)])) (.head _) (if_pos rfl)))
      (EV_fn (i := 17) G (by decide) (EV_gl G rfl) (EVs_cons (EV_sub (EV_local rfl) (EV_local rfl) (OP_itemList (by (first | lia | omega)) (hg i hi) (by (first | lia | omega)))) (EVs_cons (EV_sub (EV_local rfl) (EV_local rfl) (OP_itemList (by (first | lia | omega)) (hg j hj) (by (first | lia | omega)))) EVs_nil))
        (by exact price_ok (c := (lawCx prog w S₀ A L fx cd fr).on fr') G (hA.less (by decide)) (hw i hi).1 (hw j hj).1 (hw i hi).2 (hw j hj).2)) (OP_ne rfl rfl (by exact Nat.lt_of_le_of_lt (Nat.add_le_add_left (Nat.min_le_left _ _) _) (by exact hA.units)))) ?_) (fun h => by cases h) (fun _ => EX_nil (EX_nil ?_))
    · have e := hlp i j hlt hj
      show (!((lev (ws.getD ((i : Int)).toNat []) (ws.getD ((j : Int)).toNat []) : Nat) : Int) == ((price (ws.getD i []) (ws.getD j []) : Nat) : Int)) = false
      rw [Int.toNat_natCast, Int.toNat_natCast, e]; simp
    · refine ⟨_, rfl, Le.mk ⟨rfl, rfl, rfl, trivial⟩ ?_⟩
      rw [htk]
      exact List.Sublist.refl _
  · rintro _ rfl
    have hil : (itemsOf (.dat (.list (tups (pairsL ws.length))))).length = (pairsL ws.length).length := by simp [itemsOf, tups_length]
    rw [hil, List.take_length]
    refine EX_le (σ' := lawS15 L fa (pairsL ws.length).length (mfar ws (pairsL ws.length)) ws.length) (Le.mk ⟨rfl, rfl, trivial⟩) (law_c G hA F hlo hhi (far_ok hhi) K)
end
end Mine

end

noncomputable section
open PySem PySem.W PyProof.Rows PySem.Calls
set_option Elab.async false
set_option linter.unusedVariables false
set_option maxRecDepth 100000
namespace Mine

section
variable {prog : Program} {w : World} {S₀ : Shared} {A : Around} {L fx : Addr} {cd : Value} {fr : List (Addr × ACell)} {mg mb : Str → Option Value} {P : AFl → AS → Prop} {rest : List Stmt}
theorem names_len (script : List Int) : (wordsL script).length = 3 + min 2 script.length := by simp [wordsL]; (first | lia | omega)

theorem law_ok (G : Gd S₀ mg mb) (hA : AOk A 5) (F : FrOk (lawCx prog w S₀ A L fx cd fr)) {script : List Int} (hsz : script.length < 100) (W : WordsOk (wordsL script)) {X Y : List (List Int)} (K : LawOk (farL (wordsL script)) (wordsL script).length X Y) :
    (lawCx prog w S₀ A L fx cd fr).EX (bodyOf (pst 20)) (mk [] [(L + 1 + 1 + 1 + 1 + 1, .cell none), (L + 1 + 1 + 1 + 1, .cell none), (L + 1 + 1 + 1, .cell none), (L + 1 + 1, .cell none), (L + 1, .cell (some (.li script)))]) (fun af _ => af = .ret (.bool true)) := by
  -- names
  have hmin : min (2 : Int) ((script.map PyData.int).length : Int) = ((min 2 script.length : Nat) : Int) := by rw [List.length_map]; (first | lia | omega)
  refine EX_assign (d := .dat (.list (strsD (wordsL script)))) (EV_eq (EV_bin (EV_list (ds := strsD [[97, 98], [66, 65], [98]]) (EVs_cons (EV_lit (w := [97, 98]) (by decide +kernel)) (EVs_cons (EV_lit (w := [66, 65]) (by decide +kernel)) (EVs_cons (EV_lit (w := [98]) (by decide +kernel)) EVs_nil))) (by simp [strsD]))
    (EV_freezeP (ds := strsD ((List.range (min 2 script.length)).map fun (k : Nat) => wordOf ((pick script (some (k : Int)) none (some 2)).sum.fmod 85).toNat))
      (EP_comp (src := .rng 0 ((min 2 script.length : Nat) : Int) 1) (cl := [("script", L + 1)]) (onInt fun k => some (.w (wordOf ((pick script (some k) none (some 2)).sum.fmod 85).toNat)))
        (EV_callT (EV_bl G rfl) (EVs_cons (EV_eq (EV_callB (EV_bl G rfl) (EVs_cons EV_int (EVs_cons (EV_callB (EV_bl G rfl) (EVs_cons (EV_cell (a := L + 1) (.tail _ (.tail _ (.tail _ (.tail _ (.head _)))))) EVs_nil) (OPs_lenList (by rw [List.length_map]; (first | lia | omega)))) EVs_nil)) (OPs_min2 hA.h)) (by rw [hmin])) EVs_nil) OPs_range1)
        (up_ok (by (first | lia | omega))) hA.h (by rw [up_length]; (first | lia | omega)) ?_) ?_)
    (OP_addList (by simp [strsD]; (first | lia | omega)))) ?_) ?_
  · intro C fr' d hd
    obtain ⟨q, hq, rfl⟩ := mem_items_up hd
    refine ⟨rfl, EV_eq (EV_fn (i := 15) G (by decide) (EV_gl G rfl) (EVs_cons (EV_callB (EV_bl G rfl) (EVs_cons (EV_eq (EV_sliceL (lo := some (q : Int)) (hi := none) (st := some 2) (EV_cell (a := L + 1) (.tail _ (.tail _ (.tail _ (.tail _ (.head _)))))) (EPart_int (EV_local rfl)) EPart_no (EPart_int EV_int) (by simp) (by rw [List.length_map]; (first | lia | omega))) (by rw [pick_map])) EVs_nil) (OPs_sum hA.h)) EVs_nil) (by exact word_ok' (c := ((lawCx prog w S₀ A L fx cd fr).cc _ _ C fr')) G (hA.less (by decide)))) rfl⟩
  · rintro d σ' ⟨D, rfl, rfl⟩
    refine ⟨D, rfl, ?_⟩
    rw [items_int, strsD, List.map_map, List.map_map, ← List.filterMap_eq_map]
    rfl
  · rw [strsD, strsD, ← List.map_append]; rfl
  -- count
  have hlo := W.lo
  have hhi := W.hi
  have hch := W.ch
  have hlp := W.lp
  clear W hmin
  generalize wordsL script = ws at *
  have hwl : (strsD ws).length = ws.length := by simp [strsD]
  refine EX_assign (EV_callB (EV_bl G rfl) (EVs_cons (EV_local rfl) EVs_nil) (OPs_lenList (by rw [hwl]; (first | lia | omega)))) ?_
  rw [hwl]
  -- pairs
  refine EX_assignComp2 (cl := []) (src := .rng 0 (ws.length : Int) 1) inn prF
    (EV_callT (EV_bl G rfl) (EVs_cons (EV_local rfl) EVs_nil) OPs_range1) (up_ok (by (first | lia | omega))) hA.h (by rw [up_length]; (first | lia | omega)) ?_ (by decide) ?_ ?_ ?_ ?_
  · intro d hd
    obtain ⟨k, hk, rfl⟩ := mem_items_up hd
    show (itemsOf (.rng 0 (k : Int) 1)).length < 50
    rw [up_length]; (first | lia | omega)
  · intro C fr' d hd
    obtain ⟨k, hk, rfl⟩ := mem_items_up hd
    exact EV_callT (EV_bl G rfl) (EVs_cons (EV_local rfl) EVs_nil) OPs_range1
  · intro d hd
    obtain ⟨k, hk, rfl⟩ := mem_items_up hd
    exact up_ok (by (first | lia | omega))
  · intro C fr' d e hd he
    obtain ⟨k, hk, rfl⟩ := mem_items_up hd
    obtain ⟨i, hi, rfl⟩ := mem_items_up (n := k) he
    exact ⟨rfl, EV_tuple (ds := [.int i, .int k]) (EVs_cons (EV_local rfl) (EVs_cons (EV_local rfl) EVs_nil))⟩
  intro D
  rw [pairs_items]
  refine EX_freeze (a := D) (ds := tups (pairsL ws.length)) (m := [(L + 1 + 1 + 1 + 1 + 1, .cell none), (L + 1 + 1 + 1 + 1, .cell none), (L + 1 + 1 + 1, .cell none), (L + 1 + 1, .cell none), (L + 1, .cell (some (.li script)))])
    [("names", .dat (.list (strsD ws))), ("count", .int ws.length), ("pairs", .dat (.list (tups (pairsL ws.length))))] (List.Perm.refl _) ⟨.inl rfl, .inl rfl, .inr ⟨rfl, rfl⟩, trivial⟩ ?_
  refine EX_le (σ' := lawS1 L ws) (Le.mk ⟨rfl, rfl, rfl, trivial⟩ (((((List.nil_sublist _).cons_cons _).cons_cons _).cons_cons _).cons_cons _)) ?_
  exact law_b G hA F hlo hhi hch hlp K
end
end Mine

end

noncomputable section
open PySem PySem.W PyProof.Rows PySem.Calls
set_option Elab.async false
set_option linter.unusedVariables false
set_option maxRecDepth 100000
set_option maxHeartbeats 2000000
namespace Mine

/-- what the top leaves on the heap: the globals, and each function with its code -/
def kCut : Str := "/claim/cut.py"
def kMod1 : Value := .str "cpy313.unittest.util" 187
def kMod2 : Value := .str "cpy313.heapq" 213
def kMod3 : Value := .str "cpy313.traceback" 257
def kMod4 : Value := .str "law_ny0183_01" 293
def kCode (n : Str) (t u v line argc r r' : Nat) (x y : Value) (z e e' : Nat) : Obj := { cls := .type "code", data := .fields #[.str n t, .str n u, .str kCut v, .int line 0, .int argc 0, .int 0 0, .int 0 0, .int 3 0, .ref r, .bool true, .int 181 0, .ref r', .none, x, y, .ref z, .int e 0, .int line 0, .str kCut e'] }
def kFn (i : Nat) (q : Str) (m : Value) (c : Nat) : Obj := { cls := .type "function", data := .func (fdOf (pst i) q .none m (.ref c) .none none) }
def kEnt (P : Params) (n : Str) (t : Nat) (v : Value) : DictEntry := { hash := PyData.keyHash P n, key := .str n t, val := v }
def kEs1 (P : Params) : List DictEntry := [kEnt P "__name__" 165 (.str "law_ny0183_01" 293), kEnt P "__doc__" 166 .none, kEnt P "__package__" 167 .none, kEnt P "__loader__" 168 (.builtin "__main__.__loader__#opaque"), kEnt P "__spec__" 169 .none, kEnt P "__annotations__" 170 (.ref 6), kEnt P "__builtins__" 171 (.ref 4)]
def kEs2 (P : Params) : List DictEntry := [kEnt P "__file__" 173 (.str "/claim/cut.py" 172), kEnt P "__cached__" 174 .none, kEnt P "sorted_list_difference" 202 (.ref 21), kEnt P "unorderable_list_difference" 212 (.ref 28), kEnt P "heappush" 222 (.ref 35), kEnt P "heappop" 231 (.ref 42), kEnt P "_siftdown" 243 (.ref 49)]
def kEs3 (P : Params) : List DictEntry := [kEnt P "_siftup" 256 (.ref 56), kEnt P "_MAX_STRING_SIZE" 260 (.int 40 259), kEnt P "_MOVE_COST" 262 (.int 2 261), kEnt P "_CASE_COST" 264 (.int 1 263), kEnt P "_substitution_cost" 272 (.ref 63), kEnt P "_levenshtein_distance" 292 (.ref 70), kEnt P "_law_word" 303 (.ref 77)]
def kEs4 (P : Params) : List DictEntry := [kEnt P "_law_cost" 311 (.ref 84), kEnt P "_law_price" 324 (.ref 91), kEnt P "_law_net" 340 (.ref 98), kEnt P "_law_parts" 346 (.ref 103), kEnt P "law" 352 (.ref 108)]
def kDict (P : Params) : Obj := { cls := .type "dict", data := .dict (kEs1 P ++ (kEs2 P ++ (kEs3 P ++ kEs4 P))).toArray 26 }
def kPart1 : Frag := [(20, kCode "sorted_list_difference" 189 190 191 2 2 15 16 (.ref 17) (.ref 18) 19 200 201), (21, kFn 1 "sorted_list_difference" kMod1 20), (27, kCode "unorderable_list_difference" 203 204 205 34 2 22 23 (.ref 24) (.ref 25) 26 210 211), (28, kFn 2 "unorderable_list_difference" kMod1 27)]
def kPart2 : Frag := [(34, kCode "heappush" 215 216 217 44 2 29 30 (.ref 31) (.ref 32) 33 220 221), (35, kFn 4 "heappush" kMod2 34), (41, kCode "heappop" 223 224 225 47 1 36 37 (.ref 38) (.ref 39) 40 229 230), (42, kFn 5 "heappop" kMod2 41)]
def kPart3 : Frag := [(48, kCode "_siftdown" 232 233 234 55 3 43 44 (.ref 45) (.ref 46) 47 241 242), (49, kFn 6 "_siftdown" kMod2 48), (55, kCode "_siftup" 244 245 246 66 2 50 51 (.ref 52) (.ref 53) 54 254 255), (56, kFn 7 "_siftup" kMod2 55)]
def kPart4 : Frag := [(62, kCode "_substitution_cost" 265 266 267 84 2 57 58 (.ref 59) (.ref 60) 61 270 271), (63, kFn 12 "_substitution_cost" kMod3 62), (69, kCode "_levenshtein_distance" 273 274 275 90 3 64 65 (.ref 66) (.ref 67) 68 290 291), (70, kFn 13 "_levenshtein_distance" kMod3 69)]
def kPart5 : Frag := [(76, kCode "_law_word" 295 296 297 129 1 71 72 (.ref 73) (.ref 74) 75 301 302), (77, kFn 15 "_law_word" kMod4 76), (83, kCode "_law_cost" 304 305 306 137 2 78 79 (.ref 80) (.ref 81) 82 309 310), (84, kFn 16 "_law_cost" kMod4 83)]
def kPart6 : Frag := [(90, kCode "_law_price" 312 313 314 143 2 85 86 (.ref 87) (.ref 88) 89 322 323), (91, kFn 17 "_law_price" kMod4 90), (97, kCode "_law_net" 325 326 327 153 4 92 93 (.ref 94) (.ref 95) 96 338 339), (98, kFn 18 "_law_net" kMod4 97)]
def kPart7 : Frag := [(102, kCode "_law_parts" 341 342 343 168 2 99 100 .none .none 101 344 345), (103, kFn 19 "_law_parts" kMod4 102)]
def kK (P : Params) : Frag := (3, kDict P) :: (kPart1 ++ (kPart2 ++ (kPart3 ++ (kPart4 ++ (kPart5 ++ (kPart6 ++ kPart7))))))
def kA : List Addr := [3, 20, 21, 27, 28, 34, 35, 41, 42, 48, 49, 55, 56, 62, 63, 69, 70, 76, 77, 83, 84, 90, 91, 97, 98, 102, 103]

theorem fn_of {K : Frag} {h : Heap} (X : K.In h) {a : Addr} {i : Nat} {qual : Str} {doc pm code ct : Value} {an : Option Addr} (e : K.lookup a = some { cls := .type "function", data := .func (fdOf (pst i) qual doc pm code ct an) }) (hc : codeIn K (fdOf (pst i) qual doc pm code ct an).code (fdOf (pst i) qual doc pm code ct an).qualname = true) : ∃ fd, FnAt h a i fd :=
  ⟨_, ⟨_, _, _, _, _, _, rfl⟩, codeRec_of X hc, X _ _ e⟩
theorem bl_of {p : Program} {loose : List Str} {mean : ExcName → Option Value} {mg mb : Str → Option Value} {K : Frag} {h : Heap} {x : Str} {v : Value} (X : K.In h) (T : Top p loose mean mg mb h) (e : nsIn K mainGlobals x = some none) (hb : bootBuiltins x = some v) (hn : x ≠ "__name__") : mg x = none ∧ mb x = some v :=
  ⟨mg_none_of X T.g e, (T.builtins x hn).trans hb⟩
theorem ground {w : World} {s₁ : Shared} {loose : List Str} {mean : ExcName → Option Value} {mg mb : Str → Option Value} {q : Program} (X : (kK w.params).In s₁.heap) (T : Top q loose mean mg mb s₁.heap) : Gd s₁ mg mb where
  g := T.g
  b := T.b
  nolimit := T.nolimit
  fn := fun i a hi => by
    simp only [List.mem_cons, Prod.mk.injEq, List.not_mem_nil, or_false] at hi
    rcases hi with ⟨rfl, rfl⟩ | ⟨rfl, rfl⟩ | ⟨rfl, rfl⟩ | ⟨rfl, rfl⟩ | ⟨rfl, rfl⟩ | ⟨rfl, rfl⟩ | ⟨rfl, rfl⟩ | ⟨rfl, rfl⟩ | ⟨rfl, rfl⟩ | ⟨rfl, rfl⟩ | ⟨rfl, rfl⟩ | ⟨rfl, rfl⟩ | ⟨rfl, rfl⟩
    all_goals exact fn_of X rfl rfl
  gl := fun x v hx => by
    have key : ∀ l : List (Str × Value), (∀ p ∈ l, nsIn (kK w.params) mainGlobals p.1 = some (some p.2)) → l.lookup x = some v → mg x = some v := fun l => by
      induction l with
      | nil => intro _ e; cases e
      | cons p l ih =>
        intro hl e
        rw [List.lookup_cons] at e
        cases hp : x == p.1 with
        | true =>
          rw [hp] at e
          obtain rfl : x = p.1 := by simpa using hp
          cases e
          exact mg_of X T.g (hl p (.head _))
        | false => rw [hp] at e; exact ih (fun q hq => hl q (.tail _ hq)) e
    refine key glTab (fun p hp => ?_) hx
    simp only [glTab, List.mem_cons, List.not_mem_nil, or_false] at hp
    rcases hp with rfl | rfl | rfl | rfl | rfl | rfl | rfl | rfl | rfl | rfl | rfl | rfl | rfl | rfl | rfl | rfl
    all_goals rfl
  bl := fun x v hx => by
    have key : ∀ l : List (Str × Value), (∀ p ∈ l, mg p.1 = none ∧ mb p.1 = some p.2) → l.lookup x = some v → mg x = none ∧ mb x = some v := fun l => by
      induction l with
      | nil => intro _ e; cases e
      | cons p l ih =>
        intro hl e
        rw [List.lookup_cons] at e
        cases hp : x == p.1 with
        | true =>
          rw [hp] at e
          obtain rfl : x = p.1 := by simpa using hp
          cases e
          exact hl p (.head _)
        | false => rw [hp] at e; exact ih (fun q hq => hl q (.tail _ hq)) e
    refine key blTab (fun p hp => ?_) hx
    simp only [blTab, List.mem_cons, List.not_mem_nil, or_false] at hp
    rcases hp with rfl | rfl | rfl | rfl | rfl | rfl | rfl | rfl | rfl
    · exact bl_of X T rfl PyProof.Rows.Boot.«len» (by decide)
    · exact bl_of X T rfl PyProof.Rows.Boot.«min» (by decide)
    · exact bl_of X T rfl PyProof.Rows.Boot.«max» (by decide)
    · exact bl_of X T rfl PyProof.Rows.Boot.«sum» (by decide)
    · exact bl_of X T rfl PyProof.Rows.Boot.«sorted» (by decide)
    · exact bl_of X T rfl PyProof.Rows.Boot.«range» (by decide)
    · exact bl_of X T rfl PyProof.Rows.Boot.«list» (by decide)
    · exact bl_of X T rfl PyProof.Rows.Boot.«IndexError» (by decide)
    · exact bl_of X T rfl PyProof.Rows.Boot.«ValueError» (by decide)
end Mine

end

noncomputable section
open PySem PySem.W PyProof.Rows PySem.Calls
set_option Elab.async false
set_option linter.unusedVariables false
set_option maxRecDepth 100000
set_option maxHeartbeats 8000000
namespace Mine

theorem nd6 (a : Nat) : [a, a + 1 + 1 + 1 + 1 + 1, a + 1 + 1 + 1 + 1, a + 1 + 1 + 1, a + 1 + 1, a + 1].Nodup := by simp; (first | lia | omega)
theorem law_run {w : World} {s₁ : Shared} {loose : List Str} {mean : ExcName → Option Value} {mg mb : Str → Option Value} {q : Program} (X : (kK w.params).In s₁.heap) (T : Top q loose mean mg mb s₁.heap) {prog : Program} {l fx : Addr} {cd : Value} {as : List Addr} {script : List Int}
    (r0 : Reads s₁.heap (.ref l) (.list (script.map .int)) as) (hsz : script.length < 100) {h₁ : Heap} {tk : Nat} {m : Str → Option Value} {o5 o4 o3 o2 o1 : Obj} (F0 : Fr s₁.heap s₁.heap.objs.size h₁ m)
    (N0 : News s₁.heap s₁.heap.objs.size h₁ [(s₁.heap.objs.size + 1 + 1 + 1 + 1 + 1, o5), (s₁.heap.objs.size + 1 + 1 + 1 + 1, o4), (s₁.heap.objs.size + 1 + 1 + 1, o3), (s₁.heap.objs.size + 1 + 1, o2), (s₁.heap.objs.size + 1, o1)])
    (d5 : o5.data = .cell none) (d4 : o4.data = .cell none) (d3 : o3.data = .cell none) (d2 : o2.data = .cell none) (d1 : o1.data = .cell (some (.ref l)))
    (W : WordsOk (wordsL script)) (K : ∃ X Y, LawOk (farL (wordsL script)) (wordsL script).length X Y) {Q : Flow → Shared → Prop} {E : Value → Shared → Prop}
    (hQ : ∀ s' mc, Fr s₁.heap s₁.heap.objs.size s'.heap mc → s'.gens = s₁.gens → s'.os = s₁.os → Q (.ret (.bool true)) s') :
    wpAny (model prog w) (callerA.deeper (envOfC "law" (scOf (pst 20)) s₁.heap.objs.size fx cd)) (execs (bodyOf (pst 20)) (envOfC "law" (scOf (pst 20)) s₁.heap.objs.size fx cd)) Q E { s₁ with heap := h₁, toks := tk } := by
  obtain ⟨X', Y', K⟩ := K
  have G := ground X T
  have hA : AOk (callerA.deeper (envOfC "law" (scOf (pst 20)) s₁.heap.objs.size fx cd)) 5 := ⟨rfl, by show callerA.depth + 1 + 5 < recursionLimit; decide, by show callerA.units + 3 + 10 * 5 + 100 < cLine; decide⟩
  have F : FrOk (lawCx prog w s₁ (callerA.deeper (envOfC "law" (scOf (pst 20)) s₁.heap.objs.size fx cd)) s₁.heap.objs.size fx cd []) := by
    refine ⟨rfl, [], rfl, fun env he => ?_⟩
    obtain rfl : env = envOfC "law" (scOf (pst 20)) s₁.heap.objs.size fx cd := by simpa using he
    exact ⟨by show (scOf (pst 20)).kind ≠ .module; decide, _, rfl, .inl rfl⟩
  have hnone : ∀ b : Nat, s₁.heap.objs.size ≤ b → s₁.heap.get? b = none := fun b hb => by
    cases e : s₁.heap.get? b with
    | none => rfl
    | some o => exact absurd (Heap.lt_size e) (Nat.not_lt.mpr hb)
  have st : (lawCx prog w s₁ (callerA.deeper (envOfC "law" (scOf (pst 20)) s₁.heap.objs.size fx cd)) s₁.heap.objs.size fx cd []).St (mk [] [(s₁.heap.objs.size + 1 + 1 + 1 + 1 + 1, .cell none), (s₁.heap.objs.size + 1 + 1 + 1 + 1, .cell none), (s₁.heap.objs.size + 1 + 1 + 1, .cell none), (s₁.heap.objs.size + 1 + 1, .cell none), (s₁.heap.objs.size + 1, .cell (some (.li script)))]) { s₁ with heap := h₁, toks := tk } := by
    have hkeep : Sub s₁.heap (frzS s₁.heap.objs.size (mk [] [(s₁.heap.objs.size + 1 + 1 + 1 + 1 + 1, .cell none), (s₁.heap.objs.size + 1 + 1 + 1 + 1, .cell none), (s₁.heap.objs.size + 1 + 1 + 1, .cell none), (s₁.heap.objs.size + 1 + 1, .cell none), (s₁.heap.objs.size + 1, .cell (some (.li script)))]) { s₁ with heap := h₁, toks := tk }) := fun b o e => frz_get.mpr ⟨F0.keep b o e, fun hb => by
      have hlt : b < s₁.heap.objs.size := Heap.lt_size e
      have hb' : b ∈ [s₁.heap.objs.size, s₁.heap.objs.size + 1 + 1 + 1 + 1 + 1, s₁.heap.objs.size + 1 + 1 + 1 + 1, s₁.heap.objs.size + 1 + 1 + 1, s₁.heap.objs.size + 1 + 1, s₁.heap.objs.size + 1] := hb
      have key : ∀ a b : Nat, b ∈ [a, a + 1 + 1 + 1 + 1 + 1, a + 1 + 1 + 1 + 1, a + 1 + 1 + 1, a + 1 + 1, a + 1] → ¬ b < a := by intro a b hb; simp at hb; (first | lia | omega)
      exact key _ _ hb' hlt⟩
    refine ⟨⟨h₁, tk, rfl⟩, hkeep, nd6 _, ⟨m, F0.ns, fun y d e => by cases e⟩, fun p hp => ?_⟩
    have hp' : p ∈ [(s₁.heap.objs.size + 1 + 1 + 1 + 1 + 1, ACell.cell none), (s₁.heap.objs.size + 1 + 1 + 1 + 1, .cell none), (s₁.heap.objs.size + 1 + 1 + 1, .cell none), (s₁.heap.objs.size + 1 + 1, .cell none), (s₁.heap.objs.size + 1, .cell (some (.li script)))] := hp
    rcases List.mem_cons.mp hp' with rfl | hp'
    · exact ⟨o5, none, (N0 _ (.head _)).1, d5, fun d e => by cases e⟩
    · rcases List.mem_cons.mp hp' with rfl | hp'
      · exact ⟨o4, none, (N0 _ (.tail _ (.head _))).1, d4, fun d e => by cases e⟩
      · rcases List.mem_cons.mp hp' with rfl | hp'
        · exact ⟨o3, none, (N0 _ (.tail _ (.tail _ (.head _)))).1, d3, fun d e => by cases e⟩
        · rcases List.mem_cons.mp hp' with rfl | hp'
          · exact ⟨o2, none, (N0 _ (.tail _ (.tail _ (.tail _ (.head _))))).1, d2, fun d e => by cases e⟩
          · rcases List.mem_cons.mp hp' with rfl | hp'
            · exact ⟨o1, some (.ref l), (N0 _ (.tail _ (.tail _ (.tail _ (.tail _ (.head _)))))).1, d1, fun d e => by cases e; exact ⟨_, rfl, _, Reads.keeps hkeep r0⟩⟩
            · cases hp'
  refine law_ok G hA F hsz W K _ _ _ st fun f s' a σ' hp st' k' r' => ?_
  subst hp
  obtain ⟨v, rfl, r⟩ := r'.ret
  obtain rfl := r.bool
  obtain ⟨mc, n, _⟩ := st'.ns
  obtain ⟨h', tk', rfl⟩ := st'.rest
  exact hQ _ mc ⟨n, st'.base, Nat.le_refl _⟩ rfl rfl
end Mine

end

noncomputable section
set_option linter.unusedVariables false
namespace Mine

theorem lt_asymm : ∀ {a b : List Int}, ltInts a b = true → ltInts b a = false
  | [], [], h => by cases h
  | [], _ :: _, _ => rfl
  | _ :: _, [], h => by cases h
  | x :: a, y :: b, h => by
    unfold ltInts at h ⊢
    by_cases e : x = y
    · rw [if_pos e] at h; rw [if_pos e.symm]; exact lt_asymm h
    · rw [if_neg e] at h; rw [if_neg (Ne.symm e)]
      have := of_decide_eq_true h
      exact decide_eq_false (by (first | lia | omega))
theorem lt_irrefl : ∀ a : List Int, ltInts a a = false
  | [] => rfl
  | x :: a => by unfold ltInts; rw [if_pos rfl]; exact lt_irrefl a
/-- a is not behind b -/
def le (a b : List Int) : Prop := ltInts b a = false
theorem le_refl (a : List Int) : le a a := lt_irrefl a
theorem le_trans : ∀ {a b c : List Int}, le a b → le b c → le a c
  | [], _, [], _, _ => rfl
  | [], _, _ :: _, _, _ => rfl
  | _ :: _, [], _, h, _ => by cases h
  | _ :: _, _ :: _, [], _, h => by cases h
  | x :: a, y :: b, z :: c, h1, h2 => by
    unfold le ltInts at *
    by_cases e1 : y = x
    · rw [if_pos e1] at h1
      by_cases e2 : z = y
      · rw [if_pos e2] at h2; rw [if_pos (e2.trans e1)]; exact le_trans (a := a) (b := b) (c := c) h1 h2
      · rw [if_neg e2] at h2
        rw [if_neg (by omega)]
        have := of_decide_eq_false h2
        exact decide_eq_false (by omega)
    · rw [if_neg e1] at h1
      have q1 := of_decide_eq_false h1
      by_cases e2 : z = y
      · rw [if_neg (by omega)]
        exact decide_eq_false (by omega)
      · rw [if_neg e2] at h2
        have q2 := of_decide_eq_false h2
        rw [if_neg (by omega)]
        exact decide_eq_false (by omega)
theorem le_of_lt {a b : List Int} (h : ltInts a b = true) : le a b := lt_asymm h

def par (i : Nat) : Nat := (i - 1) / 2
/-- a heap -/
def HP (h : List (List Int)) : Prop := ∀ i, 0 < i → i < h.length → le (h.getD (par i) []) (h.getD i [])
theorem HP.nil : HP [] := fun i _ h => by simp at h
theorem getD_set {h : List (List Int)} {i j : Nat} {x : List Int} (hi : i < h.length) : (h.set i x).getD j [] = if j = i then x else h.getD j [] := by
  rw [List.getD_eq_getElem?_getD, List.getElem?_set, List.getD_eq_getElem?_getD]
  by_cases e : i = j
  · subst e; rw [if_pos rfl, if_pos rfl, if_pos hi]; rfl
  · rw [if_neg e, if_neg (Ne.symm e)]

/-- going up from pos with new in hand -/
theorem sd_heap (new : List Int) : ∀ f pos h, pos ≤ f → pos < h.length → (∀ i, 0 < i → i < h.length → i ≠ pos → par i ≠ pos → le (h.getD (par i) []) (h.getD i [])) →
    (∀ i, 0 < i → i < h.length → par i = pos → le new (h.getD i []) ∧ (0 < pos → le (h.getD (par pos) []) (h.getD i []))) → HP (sd new 0 f pos h)
  | 0, pos, h, hf, hp, ha, hb => by
    obtain rfl : pos = 0 := by (first | lia | omega)
    unfold sd
    intro i h0 hi
    rw [List.length_set] at hi
    rw [getD_set hp, getD_set hp, if_neg (show ¬ i = 0 by (first | lia | omega))]
    by_cases e : par i = 0
    · rw [if_pos e]; exact (hb i h0 hi e).1
    · rw [if_neg e]; exact ha i h0 hi (by (first | lia | omega)) e
  | f + 1, pos, h, hf, hp, ha, hb => by
    have stop : (pos = 0 ∨ ltInts new (h.getD (par pos) []) = false) → HP (h.set pos new) := fun hs i h0 hi => by
      rw [List.length_set] at hi
      rw [getD_set hp, getD_set hp]
      by_cases e : i = pos
      · subst e
        rw [if_neg (by unfold par; (first | lia | omega)), if_pos rfl]
        rcases hs with hs | hs
        · (first | lia | omega)
        · exact hs
      · rw [if_neg e]
        by_cases e2 : par i = pos
        · rw [if_pos e2]; exact (hb i h0 hi e2).1
        · rw [if_neg e2]; exact ha i h0 hi e e2
    unfold sd
    split
    · rename_i hlt
      split
      · rename_i hl
        have hpar : par pos < pos := by unfold par; (first | lia | omega)
        refine sd_heap new f (par pos) (h.set pos (h.getD (par pos) [])) (by (first | lia | omega)) (by rw [List.length_set]; (first | lia | omega)) (fun i h0 hi hne hpn => ?_) (fun i h0 hi hpi => ?_)
        · rw [List.length_set] at hi
          rw [getD_set hp, getD_set hp]
          have e1 : i ≠ pos := fun e => hpn (by rw [e])
          rw [if_neg e1]
          by_cases e2 : par i = pos
          · rw [if_pos e2]; exact (hb i h0 hi e2).2 hlt
          · rw [if_neg e2]; exact ha i h0 hi e1 e2
        · rw [List.length_set] at hi
          rw [getD_set hp, getD_set hp]
          have hgp : 0 < par pos → le (h.getD (par (par pos)) []) (h.getD (par pos) []) := fun hpp => ha (par pos) hpp (by (first | lia | omega)) (by (first | lia | omega)) (by unfold par at *; (first | lia | omega))
          have hne : par (par pos) ≠ pos := by unfold par at *; (first | lia | omega)
          rw [if_neg hne]
          by_cases e : i = pos
          · subst e
            rw [if_pos rfl]
            exact ⟨le_of_lt hl, hgp⟩
          · rw [if_neg e]
            have q : le (h.getD (par pos) []) (h.getD i []) := by
              have := ha i h0 hi e (by rw [hpi]; (first | lia | omega))
              rwa [hpi] at this
            exact ⟨le_trans (le_of_lt hl) q, fun hpp => le_trans (hgp hpp) q⟩
      · rename_i hl
        exact stop (.inr (Bool.not_eq_true _ ▸ hl))
    · exact stop (.inl (by (first | lia | omega)))
theorem siftdown_heap {h : List (List Int)} {pos : Nat} (hp : pos < h.length) (hleaf : h.length ≤ 2 * pos + 1) (ha : ∀ i, 0 < i → i < h.length → i ≠ pos → le (h.getD (par i) []) (h.getD i [])) : HP (siftdown h 0 pos) :=
  sd_heap _ pos pos h (Nat.le_refl _) hp (fun i h0 hi hne _ => ha i h0 hi hne) (fun i h0 hi hpi => by unfold par at hpi; (first | lia | omega))
theorem hpush_heap {h : List (List Int)} (H : HP h) (x : List Int) : HP (hpush h x) := by
  unfold hpush
  refine siftdown_heap (by simp) (by simp; (first | lia | omega)) fun i h0 hi hne => ?_
  have hi' : i < h.length := by simp at hi; (first | lia | omega)
  have e : ∀ j, j < h.length → (h ++ [x]).getD j [] = h.getD j [] := fun j hj => by
    rw [List.getD_eq_getElem?_getD, List.getD_eq_getElem?_getD, List.getElem?_append_left hj]
  rw [e _ (by unfold par; (first | lia | omega)), e _ hi']
  exact H i h0 hi'
/-- a hole goes down -/
theorem su_hole (n : Nat) : ∀ f pos h, h.length = n → pos < n → n ≤ f + pos → (∀ i, 0 < i → i < n → i ≠ pos → par i ≠ pos → le (h.getD (par i) []) (h.getD i [])) →
    (∀ i, 0 < i → i < n → par i = pos → 0 < pos → le (h.getD (par pos) []) (h.getD i [])) →
    (su n f pos h).1.length = n ∧ (su n f pos h).2 < n ∧ n ≤ 2 * (su n f pos h).2 + 1 ∧ ∀ i, 0 < i → i < n → i ≠ (su n f pos h).2 → par i ≠ (su n f pos h).2 → le ((su n f pos h).1.getD (par i) []) ((su n f pos h).1.getD i [])
  | 0, pos, h, hn, hp, hf, ha, hb => by (first | lia | omega)
  | f + 1, pos, h, hn, hp, hf, ha, hb => by
    have step : ∀ ch, ch < n → par ch = pos → 0 < ch → (∀ i, 0 < i → i < n → par i = pos → i ≠ ch → le (h.getD ch []) (h.getD i [])) →
        (∀ i, 0 < i → i < n → i ≠ ch → par i ≠ ch → le ((h.set pos (h.getD ch [])).getD (par i) []) ((h.set pos (h.getD ch [])).getD i [])) ∧
        (∀ i, 0 < i → i < n → par i = ch → 0 < ch → le ((h.set pos (h.getD ch [])).getD (par ch) []) ((h.set pos (h.getD ch [])).getD i [])) := fun ch hch hpc h0c hsm => by
      have hposl : pos < h.length := by (first | lia | omega)
      have hlt : pos < ch := by unfold par at hpc; (first | lia | omega)
      refine ⟨fun i h0 hi hne hpn => ?_, fun i h0 hi hpi _ => ?_⟩
      · rw [getD_set hposl, getD_set hposl]
        by_cases e : i = pos
        · subst e
          rw [if_neg (by unfold par; (first | lia | omega)), if_pos rfl]
          exact hb ch h0c hch hpc h0
        · rw [if_neg e]
          by_cases e2 : par i = pos
          · rw [if_pos e2]; exact hsm i h0 hi e2 hne
          · rw [if_neg e2]; exact ha i h0 hi e e2
      · rw [getD_set hposl, getD_set hposl, hpc, if_pos rfl]
        have hgt : ch < i := by unfold par at hpi; (first | lia | omega)
        rw [if_neg (by (first | lia | omega))]
        have := ha i h0 hi (by (first | lia | omega)) (by (first | lia | omega))
        rwa [hpi] at this
    unfold su
    split
    · rename_i h1
      split
      · rename_i h2
        obtain ⟨a, b⟩ := step (2 * pos + 2) h2.1 (by unfold par; (first | lia | omega)) (by (first | lia | omega)) (fun i h0 hi hpi hne => by
          have : i = 2 * pos + 1 := by unfold par at hpi; (first | lia | omega)
          subst this; exact h2.2)
        exact su_hole n f (2 * pos + 2) _ (by simpa using hn) h2.1 (by (first | lia | omega)) a b
      · rename_i h2
        obtain ⟨a, b⟩ := step (2 * pos + 1) h1 (by unfold par; (first | lia | omega)) (by (first | lia | omega)) (fun i h0 hi hpi hne => by
          have : i = 2 * pos + 2 := by unfold par at hpi; (first | lia | omega)
          subst this
          cases q : ltInts (h.getD (2 * pos + 1) []) (h.getD (2 * pos + 2) []) with
          | true => exact le_of_lt q
          | false => exact absurd ⟨hi, q⟩ h2)
        exact su_hole n f (2 * pos + 1) _ (by simpa using hn) h1 (by (first | lia | omega)) a b
    · exact ⟨hn, hp, by (first | lia | omega), fun i h0 hi hne hpn => ha i h0 hi hne hpn⟩
theorem hpop_heap {h : List (List Int)} (H : HP h) : HP (hpop h).2 := by
  unfold hpop
  split
  · exact HP.nil
  · rename_i hne
    by_cases hz : h.length = 0
    · have : h = [] := List.length_eq_zero_iff.mp hz
      subst this
      intro i h0 hi
      simp [siftup, siftdown, su, sd] at hi
    · have hl : (h.dropLast.set 0 (h.getD (h.length - 1) [])).length = h.length - 1 := by simp
      have hd : ∀ j, j < h.length - 1 → (h.dropLast).getD j [] = h.getD j [] := fun j hj => by
        rw [List.getD_eq_getElem?_getD, List.getD_eq_getElem?_getD, List.getElem?_dropLast, if_pos hj]
      have h0l : 0 < h.dropLast.length := by simp; (first | lia | omega)
      obtain ⟨a, b, c, d⟩ := su_hole (h.length - 1) (h.length - 1) 0 (h.dropLast.set 0 (h.getD (h.length - 1) [])) hl (by (first | lia | omega)) (by (first | lia | omega)) (fun i h0 hi hne hpn => by
        rw [getD_set h0l, getD_set h0l, if_neg hpn, if_neg hne, hd _ (by unfold par; (first | lia | omega)), hd _ hi]
        exact H i h0 (by (first | lia | omega))) (fun i _ _ _ h0 => by (first | lia | omega))
      unfold siftup
      rw [hl]
      generalize su (h.length - 1) (h.length - 1) 0 (h.dropLast.set 0 (h.getD (h.length - 1) [])) = r at *
      refine siftdown_heap (by rw [List.length_set]; (first | lia | omega)) (by rw [List.length_set, a]; exact c) fun i h0 hi hne => ?_
      rw [List.length_set, a] at hi
      have hpn : par i ≠ r.2 := fun e => by unfold par at e; (first | lia | omega)
      have hr : r.2 < r.1.length := by (first | lia | omega)
      rw [getD_set (j := par i) hr, getD_set (j := i) hr, if_neg hpn, if_neg hne]
      exact d i h0 hi hne hpn
theorem HP.least {h : List (List Int)} (H : HP h) : ∀ i, i < h.length → le (h.getD 0 []) (h.getD i []) := fun i => by
  induction i using Nat.strongRecOn with
  | _ i ih =>
    intro hi
    by_cases h0 : i = 0
    · subst h0; exact le_refl _
    · exact le_trans (ih (par i) (by unfold par; omega) (by unfold par; omega)) (H i (by omega) hi)
theorem hpop_least {h : List (List Int)} (H : HP h) (hz : 0 < h.length) : ∀ y ∈ h, le (hpop h).1 y := fun y hy => by
  obtain ⟨i, hi, rfl⟩ := List.mem_iff_getElem.mp hy
  have e : (hpop h).1 = h.getD 0 [] := by unfold hpop; split <;> rfl
  rw [e, ← getD_lt hi]
  exact H.least i hi
end Mine

end

noncomputable section
set_option linter.unusedVariables false
namespace Mine

theorem sub_len {α : Type} [BEq α] [LawfulBEq α] : ∀ {l l' : List α}, l.Nodup → (∀ x ∈ l, x ∈ l') → l.length ≤ l'.length
  | [], _, _, _ => by simp
  | a :: l, l', h, hs => by
    have h1 := List.nodup_cons.mp h
    have ha := hs a (.head _)
    have := sub_len (l := l) (l' := l'.erase a) h1.2 (fun x hx => (List.mem_erase_of_ne (by rintro rfl; exact h1.1 hx)).mpr (hs x (.tail _ hx)))
    rw [List.length_erase_of_mem ha] at this
    have : 0 < l'.length := List.length_pos_of_mem ha
    simp only [List.length_cons]; (first | lia | omega)

def Wt (f : Int → Int → Int) (h k : Int) : Int := f (min h k) (max h k)
/-- grown by the least tie that leads out -/
inductive Grown (f : Int → Int → Int) (n : Nat) : List Int → List (List Int) → Prop
  | start (s : Int) (h0 : 0 ≤ s) (h1 : s < n) : Grown f n [s] []
  | step {S : List Int} {N : List (List Int)} {h k : Int} : Grown f n S N → h ∈ S → k ∉ S → 0 ≤ k → k < n → (∀ h' ∈ S, ∀ k' : Int, 0 ≤ k' → k' < n → k' ∉ S → Wt f h k ≤ Wt f h' k') → Grown f n (S ++ [k]) (N ++ [[min h k, max h k]])
theorem Grown.range {f : Int → Int → Int} {n : Nat} {S : List Int} {N : List (List Int)} (g : Grown f n S N) : ∀ x ∈ S, 0 ≤ x ∧ x < n := by
  induction g with
  | start s h0 h1 =>
    intro x hx
    obtain rfl : x = s := by simpa using hx
    exact ⟨h0, h1⟩
  | step g hh hk h0 h1 hm ih =>
    intro x hx
    rcases List.mem_append.mp hx with hx | hx
    · exact ih x hx
    · obtain rfl : x = _ := by simpa using hx
      exact ⟨h0, h1⟩
theorem Grown.nodup {f : Int → Int → Int} {n : Nat} {S : List Int} {N : List (List Int)} (g : Grown f n S N) : S.Nodup := by
  induction g with
  | start s h0 h1 => simp
  | step g hh hk h0 h1 hm ih =>
    refine List.nodup_append.mpr ⟨ih, by simp, fun a ha b hb e => ?_⟩
    obtain rfl : b = _ := by simpa using hb
    exact hk (e ▸ ha)
theorem Grown.pos {f : Int → Int → Int} {n : Nat} {S : List Int} {N : List (List Int)} (g : Grown f n S N) : 0 < S.length := by
  cases g <;> simp

theorem pushAll_spec (f : Int → Int → Int) (t here : Int) (S : List Int) : ∀ (ks : List Nat) (hp : List (List Int)), HP hp → HP (pushAll f t here S ks hp) ∧ (∀ e ∈ hp, e ∈ pushAll f t here S ks hp) ∧
    (∀ k ∈ ks, (k : Int) ∉ S → tieOf f t here k ∈ pushAll f t here S ks hp) ∧ (∀ e ∈ pushAll f t here S ks hp, e ∈ hp ∨ ∃ k ∈ ks, (k : Int) ∉ S ∧ e = tieOf f t here k)
  | [], hp, H => ⟨H, fun _ h => h, (fun _ h => by cases h), fun _ h => .inl h⟩
  | k :: ks, hp, H => by
    unfold pushAll
    by_cases hk : (k : Int) ∈ S
    · rw [if_pos (List.contains_iff_mem.mpr hk)]
      obtain ⟨a, b, c, d⟩ := pushAll_spec f t here S ks hp H
      refine ⟨a, b, fun j hj hn => ?_, fun e he => ?_⟩
      · rcases List.mem_cons.mp hj with rfl | hj
        · exact absurd hk hn
        · exact c j hj hn
      · rcases d e he with h | ⟨j, hj, h⟩
        · exact .inl h
        · exact .inr ⟨j, .tail _ hj, h⟩
    · rw [if_neg (by simpa using hk)]
      obtain ⟨a, b, c, d⟩ := pushAll_spec f t here S ks (hpush hp (tieOf f t here k)) (hpush_heap H _)
      have hm := hpush_perm hp (tieOf f t here k)
      refine ⟨a, fun e he => b e (hm.mem_iff.mpr (.tail _ he)), fun j hj hn => ?_, fun e he => ?_⟩
      · rcases List.mem_cons.mp hj with rfl | hj
        · exact b _ (hm.mem_iff.mpr (.head _))
        · exact c j hj hn
      · rcases d e he with h | ⟨j, hj, h⟩
        · rcases List.mem_cons.mp (hm.mem_iff.mp h) with rfl | h
          · exact .inr ⟨k, .head _, hk, rfl⟩
          · exact .inl h
        · exact .inr ⟨j, .tail _ hj, h⟩
theorem popU_spec (t : Int) (S : List Int) : ∀ (q : Nat) (hp : List (List Int)), hp.length ≤ q → HP hp → (∃ y ∈ hp, t * y.getD 2 0 ∉ S) →
    ∃ e hp', popU t S q hp = some (e, hp') ∧ e ∈ hp ∧ t * e.getD 2 0 ∉ S ∧ HP hp' ∧ (∀ y ∈ hp', y ∈ hp) ∧ (∀ y ∈ hp, t * y.getD 2 0 ∉ S → (y = e ∨ y ∈ hp') ∧ le e y)
  | 0, hp, hl, H, ⟨y, hy, _⟩ => by
    have : hp = [] := List.length_eq_zero_iff.mp (by (first | lia | omega))
    subst this; cases hy
  | q + 1, hp, hl, H, ⟨y, hy, hn⟩ => by
    have hpos : 0 < hp.length := List.length_pos_of_mem hy
    have hne : hp ≠ [] := List.length_pos_iff.mp hpos
    have hper := hpop_perm hpos
    have hlen := hper.length_eq
    unfold popU
    rw [if_neg (by simpa using hne)]
    by_cases hin : t * (hpop hp).1.getD 2 0 ∈ S
    · rw [if_pos (List.contains_iff_mem.mpr hin)]
      have hmem : ∀ z ∈ hp, t * z.getD 2 0 ∉ S → z ∈ (hpop hp).2 := fun z hz hzn => by
        rcases List.mem_cons.mp (hper.mem_iff.mpr hz) with rfl | h
        · exact absurd hin hzn
        · exact h
      obtain ⟨e, hp', h1, h2, h3, h4, h5, h6⟩ := popU_spec t S q (hpop hp).2 (by simp only [List.length_cons] at hlen; (first | lia | omega)) (hpop_heap H) ⟨y, hmem y hy hn, hn⟩
      exact ⟨e, hp', h1, hper.mem_iff.mp (.tail _ h2), h3, h4, fun z hz => hper.mem_iff.mp (.tail _ (h5 z hz)), fun z hz hzn => h6 z (hmem z hz hzn) hzn⟩
    · rw [if_neg (by simpa using hin)]
      refine ⟨_, _, rfl, hper.mem_iff.mp (.head _), hin, hpop_heap H, fun z hz => hper.mem_iff.mp (.tail _ hz), fun z hz _ => ⟨List.mem_cons.mp (hper.mem_iff.mpr hz), hpop_least H hpos z hz⟩⟩
theorem netGo_grown (f : Int → Int → Int) (n : Nat) (t : Int) (ht : t = 1 ∨ t = -1) : ∀ (q : Nat) (S : List Int) (hp N : List (List Int)), Grown f n S N → S.length ≤ n → n + 1 ≤ S.length + q → HP hp →
    (∀ e ∈ hp, ∃ h k : Int, e = tieOf f t h k ∧ h ∈ S ∧ 0 ≤ k ∧ k < n) → (∀ h ∈ S.dropLast, ∀ k : Int, 0 ≤ k → k < n → k ∉ S → tieOf f t h k ∈ hp) →
    ∃ res S', netGo f n t q S hp N = some res ∧ Grown f n S' res ∧ S'.length = n
  | 0, S, hp, N, g, hl, hq, H, hm, hc => by (first | lia | omega)
  | q + 1, S, hp, N, g, hl, hq, H, hm, hc => by
    unfold netGo
    by_cases hlt : S.length < n
    · rw [if_pos hlt]
      have hpos := g.pos
      have hne : S ≠ [] := List.length_pos_iff.mp hpos
      have hlast : S.getLastD 0 = S.getLast hne := by
        rw [List.getLastD_eq_getLast?, List.getLast?_eq_some_getLast hne]; rfl
      have hS : S = S.dropLast ++ [S.getLast hne] := (List.dropLast_concat_getLast hne).symm
      obtain ⟨P1, P2, P3, P4⟩ := pushAll_spec f t (S.getLastD 0) S (List.range n) hp H
      rw [hlast] at P1 P2 P3 P4 ⊢
      generalize hH : pushAll f t (S.getLast hne) S (List.range n) hp = Hp at *
      have cov : ∀ h ∈ S, ∀ k : Int, 0 ≤ k → k < n → k ∉ S → tieOf f t h k ∈ Hp := fun h hh k h0 h1 hk => by
        rw [hS] at hh
        rcases List.mem_append.mp hh with hh | hh
        · exact P2 _ (hc h hh k h0 h1 hk)
        · obtain rfl : h = S.getLast hne := by simpa using hh
          obtain ⟨k', rfl⟩ := Int.eq_ofNat_of_zero_le h0
          exact P3 k' (List.mem_range.mpr (by (first | lia | omega))) hk
      have mem : ∀ e ∈ Hp, ∃ h k : Int, e = tieOf f t h k ∧ h ∈ S ∧ 0 ≤ k ∧ k < n := fun e he => by
        rcases P4 e he with h | ⟨k, hk, _, rfl⟩
        · exact hm e h
        · exact ⟨_, k, rfl, List.getLast_mem hne, by (first | lia | omega), by have := List.mem_range.mp hk; (first | lia | omega)⟩
      obtain ⟨k0, hk0, hk1, hk2⟩ : ∃ k : Int, 0 ≤ k ∧ k < n ∧ k ∉ S := by
        refine Classical.byContradiction fun hno => ?_
        have : ((List.range n).map Int.ofNat).length ≤ S.length := sub_len (List.pairwise_map.mpr (List.nodup_range.imp fun h e => h (Int.ofNat.inj e))) (fun x hx => by
          obtain ⟨i, hi, rfl⟩ := List.mem_map.mp hx
          exact Classical.byContradiction fun hn => hno ⟨_, Int.natCast_nonneg i, by have := List.mem_range.mp hi; show (i : Int) < n; (first | lia | omega), hn⟩)
        simp at this; (first | lia | omega)
      have hg2 : ∀ h k : Int, t * (tieOf f t h k).getD 2 0 = k := fun h k => by show t * (t * k) = k; exact tt ht
      obtain ⟨e, hp', h1, h2, h3, h4, h5, h6⟩ := popU_spec t S Hp.length Hp (Nat.le_refl _) P1 ⟨_, cov _ (List.getLast_mem hne) k0 hk0 hk1 hk2, by rw [hg2]; exact hk2⟩
      obtain ⟨h, k, rfl, hh, hk, hkn⟩ := mem e h2
      rw [hg2] at h3
      rw [h1]
      have hpair : pairOf t (tieOf f t h k) = [min h k, max h k] := by
        show [min (t * (t * h)) (t * (t * k)), max (t * (t * h)) (t * (t * k))] = _
        rw [tt ht, tt ht]
      show ∃ res S', netGo f n t q (S ++ [t * (tieOf f t h k).getD 2 0]) hp' (N ++ [pairOf t (tieOf f t h k)]) = some res ∧ _
      rw [hg2, hpair]
      refine netGo_grown f n t ht q (S ++ [k]) hp' _ (.step g hh h3 hk hkn fun h' hh' k' hk' hkn' hnk' => ?_) (by simp; (first | lia | omega)) (by simp; (first | lia | omega)) h4 (fun y hy => ?_) (fun h' hh' k' hk' hkn' hnk' => ?_)
      · have := (h6 _ (cov h' hh' k' hk' hkn' hnk') (by rw [hg2]; exact hnk')).2
        unfold le tieOf ltInts at this
        show f (min h k) (max h k) ≤ f (min h' k') (max h' k')
        by_cases e : f (min h' k') (max h' k') = f (min h k) (max h k)
        · (first | lia | omega)
        · rw [if_neg e] at this
          have := of_decide_eq_false this
          (first | lia | omega)
      · obtain ⟨h', k', rfl, hh', hk', hkn'⟩ := mem y (h5 y hy)
        exact ⟨h', k', rfl, List.mem_append_left _ hh', hk', hkn'⟩
      · rw [List.dropLast_concat] at hh'
        have hnS : k' ∉ S := fun hx => hnk' (List.mem_append_left _ hx)
        have hnk : k' ≠ k := fun e => hnk' (by rw [e]; simp)
        rcases (h6 _ (cov h' hh' k' hk' hkn' hnS) (by rw [hg2]; exact hnS)).1 with e | h
        · have : t * (tieOf f t h' k').getD 2 0 = t * (tieOf f t h k).getD 2 0 := by rw [e]
          rw [hg2, hg2] at this
          exact absurd this hnk
        · exact h
    · rw [if_neg hlt]
      exact ⟨N, S, rfl, g, by (first | lia | omega)⟩
theorem net_grown {f : Int → Int → Int} {n : Nat} {s t : Int} (ht : t = 1 ∨ t = -1) (h0 : 0 ≤ s) (h1 : s < n) : ∃ res S, netM f n s t = some res ∧ Grown f n S res ∧ S.length = n :=
  netGo_grown f n t ht (n + 1) [s] [] [] (.start s h0 h1) (by simp only [List.length_cons, List.length_nil]; (first | lia | omega)) (by simp only [List.length_cons, List.length_nil]; (first | lia | omega)) HP.nil (fun _ h => by cases h) (fun _ h => by cases h)
end Mine

end

noncomputable section
set_option linter.unusedVariables false
namespace Mine

inductive Con (E : List (List Int)) : Int → Int → Prop
  | edge {i j : Int} : [i, j] ∈ E → Con E i j
  | refl (i : Int) : Con E i i
  | symm {i j : Int} : Con E i j → Con E j i
  | trans {i j k : Int} : Con E i j → Con E j k → Con E i k
theorem Con.mono {E E' : List (List Int)} (h : ∀ t ∈ E, t ∈ E') {i j : Int} (c : Con E i j) : Con E' i j := by
  induction c with
  | edge h' => exact .edge (h _ h')
  | refl i => exact .refl i
  | symm _ ih => exact .symm ih
  | trans _ _ ih1 ih2 => exact .trans ih1 ih2
theorem Con.map {E : List (List Int)} {α : Type} (g : Int → α) (h : ∀ i j, [i, j] ∈ E → g i = g j) {i j : Int} (c : Con E i j) : g i = g j := by
  induction c with
  | edge h' => exact h _ _ h'
  | refl i => rfl
  | symm _ ih => exact ih.symm
  | trans _ _ ih1 ih2 => exact ih1.trans ih2

structure LabOk (n : Nat) (E : List (List Int)) (lab : List Int) : Prop where
  len : lab.length = n
  rng : ∀ x ∈ lab, 0 ≤ x ∧ x < n
  con : ∀ i j : Nat, i < n → j < n → (lab.getD i 0 = lab.getD j 0 ↔ Con E i j)
theorem getD_mem {lab : List Int} {i : Nat} (h : i < lab.length) : lab.getD i 0 ∈ lab := by
  rw [List.getD_eq_getElem?_getD, List.getElem?_eq_getElem h]; exact List.getElem_mem h
theorem relab_getD (lab t : List Int) (i : Nat) (h : i < lab.length) : (relab lab t).getD i 0 = if lab.getD i 0 = lab.getD (t.getD 1 0).toNat 0 then lab.getD (t.getD 0 0).toNat 0 else lab.getD i 0 := by
  unfold relab
  rw [List.getD_eq_getElem?_getD, List.getElem?_map, List.getElem?_eq_getElem h]
  simp [h]
theorem LabOk.step {n : Nat} {E : List (List Int)} {lab : List Int} (L : LabOk n E lab) (hE : TiesOk n E) {a b : Nat} (ha : a < n) (hb : b < n) : LabOk n (E ++ [[(a : Int), (b : Int)]]) (relab lab [(a : Int), (b : Int)]) := by
  have hl := L.len
  have rel : ∀ i : Nat, i < n → (relab lab [(a : Int), (b : Int)]).getD i 0 = if lab.getD i 0 = lab.getD b 0 then lab.getD a 0 else lab.getD i 0 := fun i hi => by
    have := relab_getD lab [(a : Int), (b : Int)] i (by (first | lia | omega))
    simpa using this
  refine ⟨by rw [relab_length]; exact hl, fun x hx => ?_, fun i j hi hj => ?_⟩
  · obtain ⟨y, hy, rfl⟩ := List.mem_map.mp hx
    split
    · exact L.rng _ (getD_mem (by simp; (first | lia | omega)))
    · exact L.rng _ hy
  · have up : ∀ {x y : Int}, Con E x y → Con (E ++ [[(a : Int), (b : Int)]]) x y := fun c => c.mono fun t ht => List.mem_append_left _ ht
    have ab : Con (E ++ [[(a : Int), (b : Int)]]) a b := .edge (by simp)
    constructor
    · intro h
      rw [rel i hi, rel j hj] at h
      by_cases e1 : lab.getD i 0 = lab.getD b 0 <;> by_cases e2 : lab.getD j 0 = lab.getD b 0
      · exact up ((L.con i j hi hj).mp (e1.trans e2.symm))
      · rw [if_pos e1, if_neg e2] at h
        exact (up ((L.con i b hi hb).mp e1)).trans (ab.symm.trans (up ((L.con a j ha hj).mp h)))
      · rw [if_neg e1, if_pos e2] at h
        exact (up ((L.con i a hi ha).mp h)).trans (ab.trans (up ((L.con b j hb hj).mp e2.symm)))
      · rw [if_neg e1, if_neg e2] at h
        exact up ((L.con i j hi hj).mp h)
    · intro c
      have := c.map (fun x => (relab lab [(a : Int), (b : Int)]).getD x.toNat 0) (fun x y hxy => by
        rcases List.mem_append.mp hxy with hxy | hxy
        · obtain ⟨p, q, e, hp, hq⟩ := hE _ hxy
          injection e with e1 e2
          injection e2 with e2 _
          subst e1 e2
          simp only [Int.toNat_natCast]
          rw [rel p hp, rel q hq, (L.con p q hp hq).mpr (.edge hxy)]
        · have e : [x, y] = [(a : Int), (b : Int)] := by simpa using hxy
          injection e with e1 e2
          injection e2 with e2 _
          subst e1 e2
          simp only [Int.toNat_natCast]
          rw [rel a ha, rel b hb, if_pos rfl]
          split <;> rfl)
      simpa using this
theorem LabOk.fold {n : Nat} : ∀ (rest E : List (List Int)) (lab : List Int), LabOk n E lab → TiesOk n E → TiesOk n rest → LabOk n (E ++ rest) (rest.foldl relab lab)
  | [], E, lab, L, _, _ => by simpa using L
  | t :: rest, E, lab, L, hE, hr => by
    obtain ⟨a, b, rfl, ha, hb⟩ := hr t (.head _)
    have := LabOk.fold rest (E ++ [[(a : Int), (b : Int)]]) _ (L.step hE ha hb) (fun t ht => by
      rcases List.mem_append.mp ht with h | h
      · exact hE t h
      · obtain rfl : t = _ := by simpa using h
        exact ⟨a, b, rfl, ha, hb⟩) (fun t ht => hr t (.tail _ ht))
    rw [List.append_assoc] at this
    exact this
theorem parts_lab {n : Nat} {E : List (List Int)} (hE : TiesOk n E) : LabOk n E (partsL n E) := by
  have L0 : LabOk n [] ((List.range n).map Int.ofNat) := by
    have g : ∀ i : Nat, i < n → ((List.range n).map Int.ofNat).getD i 0 = i := fun i hi => by
      rw [List.getD_eq_getElem?_getD, List.getElem?_map, List.getElem?_range hi]; rfl
    refine ⟨by simp, fun x hx => ?_, fun i j hi hj => ?_⟩
    · obtain ⟨i, hi, rfl⟩ := List.mem_map.mp hx
      have := List.mem_range.mp hi
      exact ⟨Int.natCast_nonneg i, by show (i : Int) < n; (first | lia | omega)⟩
    · rw [g i hi, g j hj]
      exact ⟨fun e => e ▸ .refl _, fun c => c.map (fun x => x) (fun _ _ h => by cases h)⟩
  have := LabOk.fold E [] _ L0 (fun t h => by cases h) hE
  rw [List.nil_append] at this
  exact this

/-- how many numbers below n a list holds -/
def dl (n : Nat) (l : List Int) : Nat := ((List.range n).filter fun (k : Nat) => l.contains (k : Int)).length
theorem dl_congr {n : Nat} {l l' : List Int} (h : ∀ k : Nat, k < n → ((k : Int) ∈ l ↔ (k : Int) ∈ l')) : dl n l = dl n l' := by
  unfold dl
  congr 1
  refine List.filter_congr fun k hk => ?_
  rw [Bool.eq_iff_iff, List.contains_iff_mem, List.contains_iff_mem]
  exact h k (List.mem_range.mp hk)
theorem dl_old {n : Nat} {l : List Int} {v : Int} (h : v ∈ l) : dl n (l ++ [v]) = dl n l := dl_congr fun k _ => by
  rw [List.mem_append, List.mem_singleton]
  exact ⟨fun h' => h'.elim id fun e => e ▸ h, .inl⟩
theorem filter_or_one (p : Nat → Bool) (v : Nat) (hv : p v = false) : ∀ (r : List Nat), r.Nodup → (r.filter fun k => p k || k == v).length = (r.filter p).length + if v ∈ r then 1 else 0
  | [], _ => by simp
  | a :: r, h => by
    have h1 := List.nodup_cons.mp h
    have ih := filter_or_one p v hv r h1.2
    rw [List.filter_cons, List.filter_cons]
    by_cases e : a = v
    · subst e
      rw [if_neg h1.1] at ih
      simp only [beq_self_eq_true, Bool.or_true, if_true, hv, List.length_cons, ih, List.mem_cons, true_or]
      simp
    · have e2 : (a == v) = false := by simpa using e
      have e3 : (v ∈ a :: r) = (v ∈ r) := by simp [Ne.symm e]
      simp only [e2, Bool.or_false, e3]
      cases p a <;> simp [ih] <;> (first | lia | omega)
theorem dl_new {n : Nat} {l : List Int} {v : Nat} (h : (v : Int) ∉ l) (hv : v < n) : dl n (l ++ [(v : Int)]) = dl n l + 1 := by
  unfold dl
  have := filter_or_one (fun k => l.contains (k : Int)) v (by simpa using h) (List.range n) List.nodup_range
  rw [if_pos (List.mem_range.mpr hv)] at this
  rw [← this]
  congr 1
  refine List.filter_congr fun k _ => ?_
  rw [Bool.eq_iff_iff]
  simp only [List.contains_iff_mem, List.mem_append, List.mem_singleton, Bool.or_eq_true, beq_iff_eq]
  exact or_congr Iff.rfl ⟨fun h => by (first | lia | omega), fun h => by (first | lia | omega)⟩

section
variable {f : Int → Int → Int} {n : Nat} {p : Int → Bool}
theorem pair_mem {h k : Int} (h0 : 0 ≤ h) (h1 : h < n) (k0 : 0 ≤ k) (k1 : k < n) (hne : h ≠ k) : [min h k, max h k] ∈ pairsL n := by
  refine mem_pairs.mpr ⟨(min h k).toNat, (max h k).toNat, ?_, by (first | lia | omega), by (first | lia | omega)⟩
  rw [Int.toNat_of_nonneg (by (first | lia | omega)), Int.toNat_of_nonneg (by (first | lia | omega))]
theorem grown_parts (hn : n ≤ 10) (hp : ∀ w w', p w = true → w' ≤ w → p w' = true) {S : List Int} {N : List (List Int)} (g : Grown f n S N) :
    dl n (S.map fun x => (partsL n ((pairsL n).filter fun t => p (tieLen f t))).getD x.toNat 0) + (N.filter fun t => p (tieLen f t)).length = S.length := by
  have LO := parts_lab (ties_filter hn fun t => p (tieLen f t))
  generalize hE : ((pairsL n).filter fun t => p (tieLen f t)) = E at *
  generalize partsL n E = lab at *
  have hl := LO.len
  have vr : ∀ x : Int, 0 ≤ x → x < n → ∃ v : Nat, v < n ∧ lab.getD x.toNat 0 = v := fun x h0 h1 => by
    have := LO.rng _ (getD_mem (lab := lab) (i := x.toNat) (by (first | lia | omega)))
    exact ⟨(lab.getD x.toNat 0).toNat, by (first | lia | omega), by (first | lia | omega)⟩
  induction g with
  | start s h0 h1 =>
    obtain ⟨v, hv, e⟩ := vr s h0 h1
    have := dl_new (n := n) (l := []) (v := v) (by simp) hv
    have z : dl n [] = 0 := by unfold dl; simp
    simp only [List.map_cons, List.map_nil, e, List.filter_nil, List.length_nil, List.length_singleton]
    rw [List.nil_append, z] at this
    (first | lia | omega)
  | @step S N h k g hh hk h0 h1 hm ih =>
    have hr := g.range h hh
    have hne : h ≠ k := fun e => hk (e ▸ hh)
    have hpm := pair_mem hr.1 hr.2 h0 h1 hne
    have etl : tieLen f [min h k, max h k] = Wt f h k := rfl
    rw [List.map_append, List.filter_append, List.length_append, List.length_append, List.map_cons, List.map_nil]
    obtain ⟨v, hv, e⟩ := vr k h0 h1
    rw [e]
    have key : ∀ x : Int, 0 ≤ x → x < n → (lab.getD x.toNat 0 = lab.getD k.toNat 0 ↔ Con E x k) := fun x hx0 hx1 => by
      have := LO.con x.toNat k.toNat (by (first | lia | omega)) (by (first | lia | omega))
      rwa [Int.toNat_of_nonneg hx0, Int.toNat_of_nonneg h0] at this
    cases hw : p (Wt f h k) with
    | true =>
      have hin : [min h k, max h k] ∈ E := by rw [← hE]; exact List.mem_filter.mpr ⟨hpm, by rw [etl]; exact hw⟩
      have hc : Con E h k := by
        have c : Con E (min h k) (max h k) := .edge hin
        rcases Int.le_total h k with q | q
        · rwa [Int.min_eq_left q, Int.max_eq_right q] at c
        · rw [Int.min_eq_right q, Int.max_eq_left q] at c; exact c.symm
      have := (key h hr.1 hr.2).mpr hc
      rw [dl_old (List.mem_map.mpr ⟨h, hh, by rw [this, e]⟩)]
      simp only [List.filter_cons, etl, hw, if_true, List.filter_nil, List.length_singleton]
      (first | lia | omega)
    | false =>
      have hnot : (v : Int) ∉ S.map fun x => lab.getD x.toNat 0 := fun hmem => by
        obtain ⟨s, hs, es⟩ := List.mem_map.mp hmem
        have hsr := g.range s hs
        have c := (key s hsr.1 hsr.2).mp (es.trans e.symm)
        have := c.map (fun x => x ∈ S) (fun i j hij => by
          rw [← hE] at hij
          obtain ⟨h2, h3⟩ := List.mem_filter.mp hij
          obtain ⟨a, b, eab, hab, hb⟩ := mem_pairs.mp h2
          injection eab with e1 e2
          injection e2 with e2 _
          subst e1 e2
          have h3' : p (f (a : Int) (b : Int)) = true := h3
          have w1 : Wt f a b = f a b := by unfold Wt; rw [Int.min_eq_left (by (first | lia | omega)), Int.max_eq_right (by (first | lia | omega))]
          have w2 : Wt f b a = f a b := by unfold Wt; rw [Int.min_eq_right (by (first | lia | omega)), Int.max_eq_left (by (first | lia | omega))]
          refine propext ⟨fun ha => Classical.byContradiction fun hb' => ?_, fun hb' => Classical.byContradiction fun ha => ?_⟩
          · have := hm a ha b (by (first | lia | omega)) (by (first | lia | omega)) hb'
            rw [w1] at this
            have := hp _ _ h3' this
            rw [hw] at this; cases this
          · have := hm b hb' a (by (first | lia | omega)) (by (first | lia | omega)) ha
            rw [w2] at this
            have := hp _ _ h3' this
            rw [hw] at this; cases this)
        exact hk (by rw [← this]; exact hs)
      rw [dl_new hnot hv]
      have hw' : ¬ (p (tieLen f [min h k, max h k]) = true) := by rw [etl, hw]; decide
      simp only [List.filter_cons, if_neg hw', List.filter_nil, List.length_nil, List.length_singleton]
      (first | lia | omega)
theorem grown_all {S : List Int} {N : List (List Int)} (g : Grown f n S N) (hS : S.length = n) : ∀ k : Nat, k < n → (k : Int) ∈ S := fun k hk => Classical.byContradiction fun hn => by
  have : ((k : Int) :: S).length ≤ ((List.range n).map Int.ofNat).length := sub_len (List.nodup_cons.mpr ⟨hn, g.nodup⟩) fun x hx => by
    have hr : 0 ≤ x ∧ x < n := by
      rcases List.mem_cons.mp hx with rfl | hx
      · exact ⟨by (first | lia | omega), by (first | lia | omega)⟩
      · exact g.range x hx
    exact List.mem_map.mpr ⟨x.toNat, List.mem_range.mpr (by (first | lia | omega)), by show ((x.toNat : Nat) : Int) = x; (first | lia | omega)⟩
  simp at this; (first | lia | omega)
theorem parts_count (hn : n ≤ 10) (hp : ∀ w w', p w = true → w' ≤ w → p w' = true) {S : List Int} {N : List (List Int)} (g : Grown f n S N) (hS : S.length = n) :
    partsM n ((pairsL n).filter fun t => p (tieLen f t)) + (N.filter fun t => p (tieLen f t)).length = n := by
  have h := grown_parts hn hp g
  rw [hS] at h
  have LO := parts_lab (ties_filter hn fun t => p (tieLen f t))
  have e : dl n (S.map fun x => (partsL n ((pairsL n).filter fun t => p (tieLen f t))).getD x.toNat 0) = partsM n ((pairsL n).filter fun t => p (tieLen f t)) := by
    show _ = dl n (partsL n ((pairsL n).filter fun t => p (tieLen f t)))
    generalize partsL n ((pairsL n).filter fun t => p (tieLen f t)) = lab at *
    have hl := LO.len
    refine dl_congr fun k _ => ⟨fun hm => ?_, fun hm => ?_⟩
    · obtain ⟨s, hs, e⟩ := List.mem_map.mp hm
      have := g.range s hs
      rw [← e]; exact getD_mem (by (first | lia | omega))
    · obtain ⟨i, hi, e⟩ := List.mem_iff_getElem.mp hm
      refine List.mem_map.mpr ⟨(i : Int), grown_all g hS i (by (first | lia | omega)), ?_⟩
      rw [Int.toNat_natCast, List.getD_eq_getElem?_getD, List.getElem?_eq_getElem hi, ← e]; rfl
  rw [e] at h
  exact h
end
end Mine

end

noncomputable section
set_option linter.unusedVariables false
namespace Mine
open PySem PySem.W PyProof.Rows PySem.Calls

theorem lt_of_le_ne : ∀ {a b : List Int}, le a b → a ≠ b → ltInts a b = true
  | [], [], _, h => absurd rfl h
  | [], _ :: _, _, _ => rfl
  | _ :: _, [], h, _ => by cases h
  | x :: a, y :: b, h, hne => by
    unfold le ltInts at h
    unfold ltInts
    by_cases e : x = y
    · subst e
      rw [if_pos rfl] at h ⊢
      exact lt_of_le_ne h fun q => hne (by rw [q])
    · rw [if_neg (Ne.symm e)] at h
      rw [if_neg e]
      have := of_decide_eq_false h
      exact decide_eq_true (by (first | lia | omega))
theorem lt_ne {a b : List Int} (h : ltInts a b = true) : a ≠ b := fun e => by rw [e, lt_irrefl] at h; cases h
theorem lt_trans {a b c : List Int} (h1 : ltInts a b = true) (h2 : ltInts b c = true) : ltInts a c = true :=
  lt_of_le_ne (le_trans (le_of_lt h1) (le_of_lt h2)) fun e => by subst e; rw [lt_asymm h1] at h2; cases h2

-- the sort
def reach (F : List (Nat × Nat)) : Nat → Nat → Nat → Bool
  | 0, x, y => x == y
  | k + 1, x, y => x == y || F.any fun e => e.1 == x && reach F k e.2 y
def pw (F : List (Nat × Nat)) (n : Nat) : List Nat → Bool
  | [] => true
  | x :: r => (r.all fun y => reach F n x y) && pw F n r
def kchk (n : Nat) : List (Nat × Nat) → KasT (Array Nat) → Bool
  | F, .ret a => pw F n a.toList && a.toList.isPerm (List.range n)
  | F, .ask i j k => kchk n ((i, j) :: F) (k true) && kchk n ((j, i) :: F) (k false)
theorem reach_ok {F : List (Nat × Nat)} {g : Nat → List Int} (hF : ∀ e ∈ F, le (g e.1) (g e.2)) : ∀ {k x y : Nat}, reach F k x y = true → le (g x) (g y)
  | 0, x, y, h => by
    obtain rfl : x = y := by simpa [reach] using h
    exact le_refl _
  | k + 1, x, y, h => by
    rw [reach, Bool.or_eq_true] at h
    rcases h with h | h
    · obtain rfl : x = y := by simpa using h
      exact le_refl _
    · obtain ⟨e, he, h⟩ := List.any_eq_true.mp h
      rw [Bool.and_eq_true] at h
      obtain ⟨h1, h2⟩ := h
      have h1' : e.1 = x := by simpa using h1
      exact le_trans (h1' ▸ hF e he) (reach_ok hF h2)
theorem pw_ok {F : List (Nat × Nat)} {n : Nat} {g : Nat → List Int} (hF : ∀ e ∈ F, le (g e.1) (g e.2)) : ∀ {l : List Nat}, pw F n l = true → l.Pairwise fun x y => le (g x) (g y)
  | [], _ => .nil
  | x :: r, h => by
    rw [pw, Bool.and_eq_true] at h
    exact .cons (fun y hy => reach_ok hF (List.all_eq_true.mp h.1 y hy)) (pw_ok hF h.2)
theorem kchk_ok {n : Nat} {g : Nat → List Int} : ∀ {t : KasT (Array Nat)} {F : List (Nat × Nat)}, kchk n F t = true → (∀ e ∈ F, le (g e.1) (g e.2)) →
    (kgo (fun i j => ltInts (g i) (g j)) t).toList.Perm (List.range n) ∧ (kgo (fun i j => ltInts (g i) (g j)) t).toList.Pairwise fun x y => le (g x) (g y)
  | .ret a, F, h, hF => by
    rw [kchk, Bool.and_eq_true] at h
    exact ⟨List.isPerm_iff.mp h.2, pw_ok hF h.1⟩
  | .ask i j k, F, h, hF => by
    rw [kchk, Bool.and_eq_true] at h
    show (kgo _ (k (ltInts (g i) (g j)))).toList.Perm _ ∧ _
    cases hl : ltInts (g i) (g j) with
    | true =>
      have := kchk_ok (g := g) h.1 (fun e he => by
        rcases List.mem_cons.mp he with rfl | he
        · exact le_of_lt hl
        · exact hF e he)
      exact ⟨this.1, by show (kgo _ (k (ltInts (g i) (g j)))).toList.Pairwise _; rw [hl]; exact this.2⟩
    | false =>
      have := kchk_ok (g := g) h.2 (fun e he => by
        rcases List.mem_cons.mp he with rfl | he
        · exact hl
        · exact hF e he)
      exact ⟨this.1, by show (kgo _ (k (ltInts (g i) (g j)))).toList.Pairwise _; rw [hl]; exact this.2⟩
theorem kchk_all : ∀ n, n = 2 ∨ n = 3 ∨ n = 4 → kchk n [] (kas_sort n) = true := by
  rintro n (rfl | rfl | rfl) <;> decide +kernel
theorem range_getD (l : List (List Int)) : (List.range l.length).map (fun i => l.getD i []) = l := by
  apply List.ext_getElem
  · simp
  · intro i h1 h2
    simp [h2]
theorem sortP_spec {l : List (List Int)} (hl : l.length = 2 ∨ l.length = 3 ∨ l.length = 4) (hnd : l.Nodup) : (sortP l).Perm l ∧ (sortP l).Pairwise fun x y => ltInts x y = true := by
  obtain ⟨h1, h2⟩ := kchk_ok (g := fun i => l.getD i []) (kchk_all l.length hl) (fun e he => by cases he)
  have hp : (sortP l).Perm l := by
    have := h1.map fun i => l.getD i []
    rw [range_getD] at this
    exact this
  have hs : (sortP l).Pairwise le := List.pairwise_map.mpr h2
  have hn : (sortP l).Nodup := hp.nodup_iff.mpr hnd
  exact ⟨hp, (hs.and hn).imp fun h => lt_of_le_ne h.1 h.2⟩

-- the merge
abbrev Srt (l : List (List Int)) : Prop := l.Pairwise fun x y => ltInts x y = true
theorem filter_drop {l : List (List Int)} {x : List Int} {m : List (List Int)} (h : ∀ y ∈ l, y ≠ x) : (l.filter fun t => !(x :: m).contains t) = l.filter fun t => !m.contains t :=
  List.filter_congr fun y hy => by
    rw [List.contains_cons, show (y == x) = false from by simpa using h y hy, Bool.false_or]
theorem mrg_filter : ∀ (q : Nat) (X Y : List (List Int)), X.length + Y.length ≤ q → Srt X → Srt Y → mrg X Y = (X.filter fun t => !Y.contains t, Y.filter fun t => !X.contains t)
  | q, [], Y, _, _, _ => by
    rw [mrg_no]
    congr 1
    exact (List.filter_eq_self.mpr fun _ _ => rfl).symm
  | q, x :: xs, [], _, _, _ => by
    rw [mrg_nil]
    congr 1
    exact (List.filter_eq_self.mpr fun _ _ => rfl).symm
  | 0, x :: xs, y :: ys, h, _, _ => by simp at h
  | q + 1, x :: xs, y :: ys, h, hX, hY => by
    obtain ⟨hx1, hx2⟩ := List.pairwise_cons.mp hX
    obtain ⟨hy1, hy2⟩ := List.pairwise_cons.mp hY
    rw [mrg_cons]
    by_cases e1 : ltInts x y = true
    · rw [if_pos e1, mrg_filter q xs (y :: ys) (by simp at h ⊢; (first | lia | omega)) hx2 hY]
      have hxy : ∀ z ∈ y :: ys, z ≠ x := fun z hz => by
        rcases List.mem_cons.mp hz with rfl | hz
        · exact (lt_ne e1).symm
        · exact (lt_ne (lt_trans e1 (hy1 z hz))).symm
      have hc : (y :: ys).contains x = false := by
        rw [← Bool.not_eq_true, List.contains_iff_mem]
        exact fun hm => hxy x hm rfl
      have e3 : ((x :: xs).filter fun t => !(y :: ys).contains t) = x :: xs.filter fun t => !(y :: ys).contains t := by rw [List.filter_cons, hc]; rfl
      rw [e3, filter_drop hxy]
    · rw [if_neg e1]
      by_cases e2 : ltInts y x = true
      · rw [if_pos e2, mrg_filter q (x :: xs) ys (by simp at h ⊢; (first | lia | omega)) hX hy2]
        have hyx : ∀ z ∈ x :: xs, z ≠ y := fun z hz => by
          rcases List.mem_cons.mp hz with rfl | hz
          · exact (lt_ne e2).symm
          · exact (lt_ne (lt_trans e2 (hx1 z hz))).symm
        have hc : (x :: xs).contains y = false := by
          rw [← Bool.not_eq_true, List.contains_iff_mem]
          exact fun hm => hyx y hm rfl
        have e3 : ((y :: ys).filter fun t => !(x :: xs).contains t) = y :: ys.filter fun t => !(x :: xs).contains t := by rw [List.filter_cons, hc]; rfl
        rw [e3, filter_drop hyx]
      · rw [if_neg e2, mrg_filter q xs ys (by simp at h ⊢; (first | lia | omega)) hx2 hy2]
        obtain rfl : x = y := Classical.byContradiction fun hne => e1 (lt_of_le_ne (by simpa [le] using e2) hne)
        have h1 : ∀ z ∈ xs, z ≠ x := fun z hz => (lt_ne (hx1 z hz)).symm
        have h2 : ∀ z ∈ ys, z ≠ x := fun z hz => (lt_ne (hy1 z hz)).symm
        have c1 : (x :: ys).contains x = true := by simp
        have c2 : (x :: xs).contains x = true := by simp
        rw [List.filter_cons, List.filter_cons, c1, c2, filter_drop h1, filter_drop h2]
        rfl
end Mine

end

noncomputable section
set_option linter.unusedVariables false
namespace Mine
open PySem PySem.W PyProof.Rows PySem.Calls

theorem count_split (k : Int) : ∀ l : List Int, (l.filter fun w => decide (w ≤ k)).length = (l.filter fun w => decide (w < k)).length + l.count k
  | [] => by simp
  | a :: l => by
    have ih := count_split k l
    rw [List.filter_cons, List.filter_cons, List.count_cons]
    by_cases h1 : a < k
    · have e1 : decide (a ≤ k) = true := decide_eq_true (by (first | lia | omega))
      have e2 : decide (a < k) = true := decide_eq_true h1
      have e3 : (a == k) = false := by simp; (first | lia | omega)
      rw [e1, e2, e3]; simp only [if_true, List.length_cons, ih]; simp; (first | lia | omega)
    · by_cases h2 : a = k
      · subst h2
        have e1 : decide (a ≤ a) = true := decide_eq_true (by (first | lia | omega))
        have e2 : decide (a < a) = false := decide_eq_false (by (first | lia | omega))
        rw [e1, e2]; simp only [if_true, List.length_cons, ih, beq_self_eq_true]; simp; (first | lia | omega)
      · have e1 : decide (a ≤ k) = false := decide_eq_false (by (first | lia | omega))
        have e2 : decide (a < k) = false := decide_eq_false (by (first | lia | omega))
        have e3 : (a == k) = false := by simp; (first | lia | omega)
        rw [e1, e2, e3]; simp [ih]
theorem filter_len (f : Int → Int → Int) (p : Int → Bool) (N : List (List Int)) : (N.filter fun t => p (tieLen f t)).length = ((N.map (tieLen f)).filter p).length := by
  rw [List.filter_map, List.length_map]; rfl

section
variable {f : Int → Int → Int} {n : Nat}
theorem due_count (hn : n ≤ 10) {S : List Int} {N : List (List Int)} (g : Grown f n S N) (hS : S.length = n) (k : Nat) : ((partsM n (aheadL f n k) : Int) - partsM n (behindL f n k)).toNat = (N.map (tieLen f)).count (k : Int) := by
  have h1 := parts_count (p := fun w => decide (w < (k : Int))) hn (fun w w' h h' => decide_eq_true (by have := of_decide_eq_true h; omega)) g hS
  have h2 := parts_count (p := fun w => decide (w ≤ (k : Int))) hn (fun w w' h h' => decide_eq_true (by have := of_decide_eq_true h; omega)) g hS
  rw [filter_len f (fun w => decide (w < (k : Int)))] at h1
  rw [filter_len f (fun w => decide (w ≤ (k : Int)))] at h2
  have h3 := count_split (k : Int) (N.map (tieLen f))
  unfold aheadL behindL
  omega
theorem due_counts (hn : n ≤ 10) {S : List Int} {N : List (List Int)} (g : Grown f n S N) (hS : S.length = n) (a : Int) : ∀ m : Nat, (dueL f n m).count a = if 0 ≤ a ∧ a < m then (N.map (tieLen f)).count a else 0
  | 0 => by rw [if_neg (by (first | lia | omega))]; simp [dueL]
  | m + 1 => by
    rw [dueL_succ, List.count_append, due_counts hn g hS a m, due_count hn g hS m, List.count_replicate]
    by_cases e : a = m
    · have c1 : ¬ (0 ≤ a ∧ a < (m : Int)) := by (first | lia | omega)
      have c2 : 0 ≤ a ∧ a < ((m + 1 : Nat) : Int) := by (first | lia | omega)
      rw [if_neg c1, if_pos c2]
      subst e
      simp
    · have e2 : ¬ (((m : Int) == a) = true) := by simpa using Ne.symm e
      rw [if_neg e2]
      by_cases h : 0 ≤ a ∧ a < (m : Int)
      · have c2 : 0 ≤ a ∧ a < ((m + 1 : Nat) : Int) := by (first | lia | omega)
        rw [if_pos h, if_pos c2]; rfl
      · have c2 : ¬ (0 ≤ a ∧ a < ((m + 1 : Nat) : Int)) := by (first | lia | omega)
        rw [if_neg h, if_neg c2]
theorem due_perm (hn : n ≤ 10) {S : List Int} {N : List (List Int)} (g : Grown f n S N) (hS : S.length = n) (hf : ∀ t ∈ N, 0 ≤ tieLen f t ∧ tieLen f t < 7) : (N.map (tieLen f)).Perm (dueL f n 7) := by
  rw [List.perm_iff_count]
  intro a
  rw [due_counts hn g hS a 7]
  by_cases h : 0 ≤ a ∧ a < (7 : Nat)
  · rw [if_pos h]
  · rw [if_neg h]
    refine List.count_eq_zero.mpr fun hm => ?_
    obtain ⟨t, ht, e⟩ := List.mem_map.mp hm
    have := hf t ht
    exact h ⟨by (first | lia | omega), by (first | lia | omega)⟩
theorem Grown.ties {S : List Int} {N : List (List Int)} (g : Grown f n S N) : (∀ t ∈ N, t ∈ pairsL n ∧ ∃ x ∈ S, ∃ y ∈ S, t = [x, y]) ∧ N.Nodup ∧ N.length + 1 = S.length := by
  induction g with
  | start s h0 h1 => exact ⟨(fun t ht => by cases ht), List.nodup_nil, rfl⟩
  | @step S N h k g hh hk h0 h1 hm ih =>
    obtain ⟨i1, i2, i3⟩ := ih
    have hr := g.range h hh
    have hne : h ≠ k := fun e => hk (e ▸ hh)
    refine ⟨fun t ht => ?_, ?_, by simp; (first | lia | omega)⟩
    · rcases List.mem_append.mp ht with ht | ht
      · obtain ⟨a, x, hx, y, hy, e⟩ := i1 t ht
        exact ⟨a, x, List.mem_append_left _ hx, y, List.mem_append_left _ hy, e⟩
      · obtain rfl : t = [min h k, max h k] := by simpa using ht
        have hh' : h ∈ S ++ [k] := List.mem_append_left _ hh
        have hk' : k ∈ S ++ [k] := by simp
        refine ⟨pair_mem hr.1 hr.2 h0 h1 hne, min h k, ?_, max h k, ?_, rfl⟩
        · rcases Int.le_total h k with q | q
          · rw [Int.min_eq_left q]; exact hh'
          · rw [Int.min_eq_right q]; exact hk'
        · rcases Int.le_total h k with q | q
          · rw [Int.max_eq_right q]; exact hk'
          · rw [Int.max_eq_left q]; exact hh'
    · refine List.nodup_append.mpr ⟨i2, by simp, fun t ht u hu e => ?_⟩
      obtain rfl : u = [min h k, max h k] := by simpa using hu
      obtain ⟨_, x, hx, y, hy, e'⟩ := i1 t ht
      rw [e'] at e
      injection e with e1 e2
      injection e2 with e2 _
      rcases Int.le_total h k with q | q
      · rw [Int.max_eq_right q] at e2; exact hk (e2 ▸ hy)
      · rw [Int.min_eq_right q] at e1; exact hk (e1 ▸ hx)
theorem count_nodup {a : List Int} : ∀ {l : List (List Int)}, l.Nodup → a ∈ l → l.count a = 1
  | [], _, h => by cases h
  | b :: l, hn, h => by
    have h1 := List.nodup_cons.mp hn
    rw [List.count_cons]
    rcases List.mem_cons.mp h with rfl | h
    · rw [List.count_eq_zero.mpr h1.1]; simp
    · have : ¬ ((b == a) = true) := by
        intro e
        have : b = a := by simpa using e
        exact h1.1 (this ▸ h)
      rw [if_neg this, count_nodup h1.2 h]
theorem perm_of_mem {l l' : List (List Int)} (h1 : l.Nodup) (h2 : l'.Nodup) (h : ∀ x, x ∈ l ↔ x ∈ l') : l.Perm l' := by
  rw [List.perm_iff_count]
  intro a
  by_cases ha : a ∈ l
  · rw [count_nodup h1 ha, count_nodup h2 ((h a).mp ha)]
  · rw [List.count_eq_zero.mpr ha, List.count_eq_zero.mpr fun h' => ha ((h a).mpr h')]
theorem law_plain (hlo : 3 ≤ n) (hhi : n ≤ 5) (hf : ∀ i j : Nat, i < j → j < n → 0 ≤ f i j ∧ f i j < 7) : ∃ X Y, LawOk f n X Y := by
  obtain ⟨r1, S1, e1, g1, l1⟩ := net_grown (f := f) (n := n) (s := 0) (t := 1) (.inl rfl) (by decide) (by (first | lia | omega))
  obtain ⟨r2, S2, e2, g2, l2⟩ := net_grown (f := f) (n := n) (s := (n : Int) - 1) (t := -1) (.inr rfl) (by (first | lia | omega)) (by (first | lia | omega))
  obtain ⟨a1, a2, a3⟩ := g1.ties
  obtain ⟨b1, b2, b3⟩ := g2.ties
  have fp : ∀ t ∈ pairsL n, 0 ≤ tieLen f t ∧ tieLen f t < 7 := fun t ht => by
    obtain ⟨i, j, rfl, h1, h2⟩ := mem_pairs.mp ht
    exact hf i j h1 h2
  obtain ⟨p1, s1⟩ := sortP_spec (l := r1) (by (first | lia | omega)) a2
  obtain ⟨p2, s2⟩ := sortP_spec (l := r2) (by (first | lia | omega)) b2
  have n1 : (sortP r1).Nodup := p1.nodup_iff.mpr a2
  have n2 : (sortP r2).Nodup := p2.nodup_iff.mpr b2
  have d1 := (p1.map (tieLen f)).trans (due_perm (by (first | lia | omega)) g1 l1 fun t ht => fp t (a1 t ht).1)
  have d2 := (p2.map (tieLen f)).trans (due_perm (by (first | lia | omega)) g2 l2 fun t ht => fp t (b1 t ht).1)
  have hm := mrg_filter _ (sortP r1) (sortP r2) (Nat.le_refl _) s1 s2
  refine ⟨sortP r1, sortP r2, ⟨r1, e1, rfl⟩, ⟨r2, e2, rfl⟩, fun t ht => (a1 t (p1.mem_iff.mp ht)).1, fun t ht => (b1 t (p2.mem_iff.mp ht)).1, by rw [p1.length_eq]; (first | lia | omega), by rw [p2.length_eq]; (first | lia | omega), n1, n2, d1, d2, by rw [hm], by rw [hm], ?_⟩
  rw [hm]
  generalize sortP r1 = X at *
  generalize sortP r2 = Y at *
  show ((X.filter fun t => !Y.contains t).map (tieLen f)).Perm ((Y.filter fun t => !X.contains t).map (tieLen f))
  have c1 : ((X.filter fun t => Y.contains t) ++ X.filter fun t => !Y.contains t).Perm X := List.filter_append_perm _ _
  have c2 : ((Y.filter fun t => X.contains t) ++ Y.filter fun t => !X.contains t).Perm Y := List.filter_append_perm _ _
  have c3 : (X.filter fun t => Y.contains t).Perm (Y.filter fun t => X.contains t) := perm_of_mem (n1.filter _) (n2.filter _) fun x => by
    rw [List.mem_filter, List.mem_filter, List.contains_iff_mem, List.contains_iff_mem]
    exact and_comm
  have k1 := (c1.map (tieLen f)).trans (d1.trans (d2.symm.trans (c2.map (tieLen f)).symm))
  rw [List.map_append, List.map_append] at k1
  have k2 := ((c3.map (tieLen f)).symm.append_right _).trans k1
  exact (List.perm_append_left_iff _).mp k2
end
end Mine

end

noncomputable section
set_option linter.unusedVariables false
set_option maxRecDepth 100000
namespace Mine

def W85_1 : List (List Nat) := [[], [97], [65], [98], [66], [97, 97], [65, 97], [98, 97], [66, 97], [97, 65], [65, 65], [98, 65], [66, 65], [97, 98], [65, 98], [98, 98], [66, 98]]
def W85_2 : List (List Nat) := [[97, 66], [65, 66], [98, 66], [66, 66], [97, 97, 97], [65, 97, 97], [98, 97, 97], [66, 97, 97], [97, 65, 97], [65, 65, 97], [98, 65, 97], [66, 65, 97], [97, 98, 97], [65, 98, 97], [98, 98, 97], [66, 98, 97], [97, 66, 97]]
def W85_3 : List (List Nat) := [[65, 66, 97], [98, 66, 97], [66, 66, 97], [97, 97, 65], [65, 97, 65], [98, 97, 65], [66, 97, 65], [97, 65, 65], [65, 65, 65], [98, 65, 65], [66, 65, 65], [97, 98, 65], [65, 98, 65], [98, 98, 65], [66, 98, 65], [97, 66, 65], [65, 66, 65]]
def W85_4 : List (List Nat) := [[98, 66, 65], [66, 66, 65], [97, 97, 98], [65, 97, 98], [98, 97, 98], [66, 97, 98], [97, 65, 98], [65, 65, 98], [98, 65, 98], [66, 65, 98], [97, 98, 98], [65, 98, 98], [98, 98, 98], [66, 98, 98], [97, 66, 98], [65, 66, 98], [98, 66, 98]]
def W85_5 : List (List Nat) := [[66, 66, 98], [97, 97, 66], [65, 97, 66], [98, 97, 66], [66, 97, 66], [97, 65, 66], [65, 65, 66], [98, 65, 66], [66, 65, 66], [97, 98, 66], [65, 98, 66], [98, 98, 66], [66, 98, 66], [97, 66, 66], [65, 66, 66], [98, 66, 66], [66, 66, 66]]
def W85 : List (List Nat) := W85_1 ++ (W85_2 ++ (W85_3 ++ (W85_4 ++ W85_5)))
theorem W85_eq : (List.range 85).map wordOf = W85 := by decide +kernel
def chkW (u v : List Nat) : Bool := lev u v == price u v && decide (lev u v < 7)
theorem chk_1 : (W85_1.all fun u => W85.all fun v => chkW u v) = true := by decide +kernel
theorem chk_2 : (W85_2.all fun u => W85.all fun v => chkW u v) = true := by decide +kernel
theorem chk_3 : (W85_3.all fun u => W85.all fun v => chkW u v) = true := by decide +kernel
theorem chk_4 : (W85_4.all fun u => W85.all fun v => chkW u v) = true := by decide +kernel
theorem chk_5 : (W85_5.all fun u => W85.all fun v => chkW u v) = true := by decide +kernel
theorem chk_all : (W85.all fun u => W85.all fun v => chkW u v) = true := by
  show ((W85_1 ++ (W85_2 ++ (W85_3 ++ (W85_4 ++ W85_5)))).all fun u => W85.all fun v => chkW u v) = true
  rw [List.all_append, List.all_append, List.all_append, List.all_append, chk_1, chk_2, chk_3, chk_4, chk_5]
  rfl
end Mine

end

noncomputable section
set_option linter.unusedVariables false
set_option maxRecDepth 100000
namespace Mine

theorem chk_mem {u v : List Nat} (hu : u ∈ W85) (hv : v ∈ W85) : lev u v = price u v ∧ lev u v < 7 := by
  have := List.all_eq_true.mp (List.all_eq_true.mp chk_all u hu) v hv
  unfold chkW at this
  rw [Bool.and_eq_true] at this
  exact ⟨by simpa using this.1, of_decide_eq_true this.2⟩
theorem ch_all : (W85.all fun w => (w.all fun n => n == 97 || n == 65 || n == 98 || n == 66) && decide (w.length < 8)) = true := by decide +kernel
theorem ch_mem {w : List Nat} (hw : w ∈ W85) : (∀ n ∈ w, Ch n) ∧ w.length < 8 := by
  have := List.all_eq_true.mp ch_all w hw
  rw [Bool.and_eq_true] at this
  refine ⟨fun n hn => ?_, of_decide_eq_true this.2⟩
  have h := List.all_eq_true.mp this.1 n hn
  simp only [Bool.or_eq_true, beq_iff_eq] at h
  unfold Ch
  rcases h with ((h | h) | h) | h
  · exact .inl h
  · exact .inr (.inl h)
  · exact .inr (.inr (.inl h))
  · exact .inr (.inr (.inr h))
theorem base_mem : ∀ w ∈ ([[97, 98], [66, 65], [98]] : List (List Nat)), w ∈ W85 := by decide
theorem word_mem {r : Nat} (h : r < 85) : wordOf r ∈ W85 := by
  rw [← W85_eq]; exact List.mem_map.mpr ⟨r, List.mem_range.mpr h, rfl⟩
theorem wordsL_mem (script : List Int) : ∀ w ∈ wordsL script, w ∈ W85 := fun w hw => by
  unfold wordsL at hw
  rcases List.mem_append.mp hw with hw | hw
  · exact base_mem w hw
  · obtain ⟨k, _, rfl⟩ := List.mem_map.mp hw
    refine word_mem ?_
    have h1 := Int.fmod_lt_of_pos (pick script (some (k : Int)) none (some 2)).sum (b := 85) (by decide)
    (first | lia | omega)
theorem getD_in {ws : List (List Nat)} (h : ∀ w ∈ ws, w ∈ W85) {i : Nat} (hi : i < ws.length) : ws.getD i [] ∈ W85 := by
  rw [List.getD_eq_getElem?_getD, List.getElem?_eq_getElem hi]; exact h _ (List.getElem_mem hi)
theorem words_ok (script : List Int) : WordsOk (wordsL script) := by
  have hl := names_len script
  have hm := wordsL_mem script
  exact ⟨by (first | lia | omega), by (first | lia | omega), fun w hw => ch_mem (hm w hw), fun i j hij hj => (chk_mem (getD_in hm (by (first | lia | omega))) (getD_in hm hj)).1⟩
theorem nets_ok (script : List Int) : ∃ X Y, LawOk (farL (wordsL script)) (wordsL script).length X Y := by
  have W := words_ok script
  have hm := wordsL_mem script
  refine law_plain W.lo W.hi fun i j hij hj => ?_
  have := (chk_mem (getD_in hm (i := i) (by (first | lia | omega))) (getD_in hm hj)).2
  show 0 ≤ ((lev ((wordsL script).getD ((i : Int)).toNat []) ((wordsL script).getD ((j : Int)).toNat []) : Nat) : Int) ∧ ((lev ((wordsL script).getD ((i : Int)).toNat []) ((wordsL script).getD ((j : Int)).toNat []) : Nat) : Int) < 7
  rw [Int.toNat_natCast, Int.toNat_natCast]
  (first | lia | omega)
end Mine

end

noncomputable section
open PySem PySem.W PyProof.Rows PySem.Calls
set_option Elab.async false
set_option linter.unusedVariables false
set_option maxRecDepth 100000
set_option maxHeartbeats 8000000
namespace Mine

theorem law_holds : PySem.Challenge.rw_ny0183_01.Holds := by
  w_on
  o_law
  o_head (kHook kK kA (fun _ => by kernel_rfl))
  case hw => w_witness2
  k_go0
  refine law_run (by assumption) (by assumption) (by assumption) (by rename_i hc _ _; omega) (by assumption) (by assumption) (by assumption) (by assumption) (by assumption) (by assumption) (by assumption) (words_ok _) (nets_ok _) ?_
  intro s' mc F' hg' hos'
  refine goodW_bool F' (hg'.trans (by assumption)) (raisesW_false ?_) ?_ hos'
  · wrow_none_raised
  · wrow_post
end Mine

end

theorem PySem.Challenge.cw_ny0183_01_holds : PySem.Challenge.rw_ny0183_01.Holds := by
  exact Mine.law_holds
