import PyProof.Rows.All
import Wide.All
import OpenK.AllK
import Wide.FinOn
import Lean
import PySem.Challenge.RW_oc0040_01
set_option Elab.async false
section PartTOP0
open PySem PySem.W PyProof.Rows
set_option Elab.async false
set_option maxRecDepth 100000
namespace Mine
open_top hd for PySem.Challenge.rw_oc0040_01
end Mine
end PartTOP0
section PartM0
open PySem PySem.W PyProof.Rows PySem.Calls
set_option Elab.async false
set_option maxRecDepth 100000
namespace Mine

/-- an object whose data is a dict's (a frame's names too) -/
def dictAt (o : Obj) : Bool := match o.data with
  | .dict .. => true
  | _ => false
/-- may an object at b change its slots -/
def soft (N : Nat) (b : Addr) (o : Obj) : Prop := N ≤ b ∧ dictAt o = true
/-- everything in g stands in h (the slots of frames apart) -/
def Kp (N : Nat) (g h : Heap) : Prop := ∀ b o, g.get? b = some o → ∃ sl, h.get? b = some { o with slots := sl } ∧ (¬ soft N b o → sl = o.slots)
/-- everything in g but the object at L stands in h -/
def KB (N : Nat) (L : Addr) (g h : Heap) : Prop := ∀ b o, b ≠ L → g.get? b = some o → ∃ sl, h.get? b = some { o with slots := sl } ∧ (¬ soft N b o → sl = o.slots)
theorem Kp.strict {N : Nat} {g h : Heap} (k : ∀ b o, g.get? b = some o → h.get? b = some o) : Kp N g h := fun b o e => ⟨o.slots, k b o e, fun _ => rfl⟩
theorem KB.strict {N : Nat} {L : Addr} {g h : Heap} (k : ∀ b o, b ≠ L → g.get? b = some o → h.get? b = some o) : KB N L g h := fun b o n e => ⟨o.slots, k b o n e, fun _ => rfl⟩
theorem soft_slots {N : Nat} {b : Addr} {o : Obj} {sl : Array (Option Value)} : soft N b { o with slots := sl } ↔ soft N b o := Iff.rfl
theorem Kp.refl {N : Nat} (g : Heap) : Kp N g g := Kp.strict fun _ _ e => e
theorem Kp.trans {N : Nat} {f g h : Heap} (a : Kp N f g) (b : Kp N g h) : Kp N f h := fun x o e => by
  obtain ⟨sl, e1, q1⟩ := a x o e
  obtain ⟨sl2, e2, q2⟩ := b x _ e1
  exact ⟨sl2, e2, fun hs => (q2 hs).trans (q1 hs)⟩
theorem KB.refl {N : Nat} (L : Addr) (g : Heap) : KB N L g g := KB.strict fun _ _ _ e => e
theorem KB.trans {N : Nat} {L : Addr} {f g h : Heap} (a : KB N L f g) (b : KB N L g h) : KB N L f h := fun x o n e => by
  obtain ⟨sl, e1, q1⟩ := a x o n e
  obtain ⟨sl2, e2, q2⟩ := b x _ n e1
  exact ⟨sl2, e2, fun hs => (q2 hs).trans (q1 hs)⟩
theorem Kp.kb {N : Nat} {L : Addr} {g h : Heap} (a : Kp N g h) : KB N L g h := fun x o _ e => a x o e
theorem KB.sameBut {N : Nat} {L : Addr} {g h : Heap} (a : Heap.SameBut L g h) : KB N L g h := KB.strict fun x _ n e => (a.2 x n).trans e
theorem Kp.push {N : Nat} (g : Heap) (o : Obj) : Kp N g (g.push o) := Kp.strict fun _ _ e => Heap.get?_push_of_some _ e
theorem Kp.hard {N : Nat} {g h : Heap} (k : Kp N g h) {b : Addr} {o : Obj} (e : g.get? b = some o) (n : ¬ soft N b o) : h.get? b = some o := by
  obtain ⟨sl, e1, q⟩ := k b o e
  rw [q n] at e1
  exact e1
theorem KB.hard {N : Nat} {L : Addr} {g h : Heap} (k : KB N L g h) {b : Addr} {o : Obj} (hb : b ≠ L) (e : g.get? b = some o) (n : ¬ soft N b o) : h.get? b = some o := by
  obtain ⟨sl, e1, q⟩ := k b o hb e
  rw [q n] at e1
  exact e1
theorem Kp.ns {N : Nat} {g h : Heap} (k : Kp N g h) {L : Addr} {m : Str → Option Value} (n : g.Ns L m) : h.Ns L m := by
  obtain ⟨o, es, ep, ho, hd, r⟩ := n
  obtain ⟨sl, e1, _⟩ := k _ _ ho
  exact ⟨_, es, ep, e1, hd, r⟩

/-- the addresses of a heap's frames (and other dicts) from N on -/
def softs (N : Nat) (h : Heap) : List Addr := (List.range h.objs.size).filter fun b => decide (N ≤ b) && (h.get? b).any dictAt
/-- the heap without them -/
def hid (N : Nat) (h : Heap) : Heap := hideAll h (softs N h)
theorem softs_mem {N : Nat} {h : Heap} {b : Addr} {o : Obj} (e : h.get? b = some o) : b ∈ softs N h ↔ soft N b o := by
  unfold softs soft
  rw [List.mem_filter, List.mem_range, Bool.and_eq_true, decide_eq_true_eq, e]
  exact ⟨fun q => q.2, fun q => ⟨Heap.lt_size e, q⟩⟩
theorem hid_some {N : Nat} {h : Heap} {b : Addr} {o : Obj} : (hid N h).get? b = some o ↔ h.get? b = some o ∧ ¬ soft N b o := by
  constructor
  · intro e
    have e1 := of_hideAll _ e
    refine ⟨e1, fun q => ?_⟩
    have := hideAll_none (softs N h) (h := h) ((softs_mem e1).mpr q)
    unfold hid at e
    rw [this] at e
    cases e
  · rintro ⟨e, n⟩
    exact hideAll_get _ e fun q => n ((softs_mem e).mp q)
theorem hid_size (N : Nat) (h : Heap) : (hid N h).objs.size = h.objs.size := hideAll_size _ _

/-- a frame at L, over the caller's heap g -/
structure Fm (N : Nat) (g : Heap) (L : Addr) (h : Heap) (m : Str → Option Value) : Prop where
  fr : Fr (hid N g) L h m
  kb : KB N L g h
  new : g.get? L = none
  lo : N ≤ L
theorem Fm.ns {N : Nat} {g : Heap} {L : Addr} {h : Heap} {m : Str → Option Value} (F : Fm N g L h m) : h.Ns L m := F.fr.ns
theorem Fm.kp {N : Nat} {g : Heap} {L : Addr} {h : Heap} {m : Str → Option Value} (F : Fm N g L h m) : Kp N g h := fun b o e => F.kb b o (fun q => by rw [q, F.new] at e; cases e) e
theorem Fm.enter {N : Nat} {g h : Heap} {m : Str → Option Value} (F : Fr g g.objs.size h m) (hN : N ≤ g.objs.size) : Fm N g g.objs.size h m :=
  ⟨⟨F.ns, fun b o e => F.keep b o (hid_some.mp e).1, by rw [hid_size]; exact F.above⟩, KB.strict fun b o _ e => F.keep b o e, Heap.get?_none_of_le (Nat.le_refl _), hN⟩
theorem Fm.set {N : Nat} {g : Heap} {L : Addr} {h h' : Heap} {m m' : Str → Option Value} (F : Fm N g L h m) (hn : h'.Ns L m') (hs : Heap.SameBut L h h') : Fm N g L h' m' :=
  ⟨F.fr.set hn hs, F.kb.trans (KB.sameBut hs), F.new, F.lo⟩

def allNews (h₀ : Heap) (L : Addr) (h : Heap) : List (Addr × Obj) :=
  (List.range h.objs.size).filterMap fun a => if a = L then none else match h₀.get? a with
    | some _ => none
    | none => (h.get? a).map fun o => (a, o)
theorem allNews_mem {h₀ h : Heap} {L a : Addr} {o : Obj} : (a, o) ∈ allNews h₀ L h ↔ h.get? a = some o ∧ a ≠ L ∧ h₀.get? a = none := by
  unfold allNews
  rw [List.mem_filterMap]
  constructor
  · rintro ⟨b, _, e⟩
    by_cases hb : b = L
    · rw [if_pos hb] at e; cases e
    · rw [if_neg hb] at e
      cases q : h₀.get? b with
      | some _ => rw [q] at e; cases e
      | none =>
        rw [q] at e
        obtain ⟨o', e1, e2⟩ := Option.map_eq_some_iff.mp e
        cases e2
        exact ⟨e1, hb, q⟩
  · rintro ⟨e, n, q⟩
    refine ⟨a, List.mem_range.mpr (Heap.lt_size e), ?_⟩
    rw [if_neg n, q, e]; rfl
theorem allNews_news (h₀ : Heap) (L : Addr) (h : Heap) : News h₀ L h (allNews h₀ L h) := fun p hp => by
  obtain ⟨a, o⟩ := p
  exact allNews_mem.mp hp
theorem kb_of {N : Nat} {g h h' : Heap} {L : Addr} {m m' : Str → Option Value} {news : List (Addr × Obj)} (F : Fm N g L h m) (F' : Fr (hid N g) L h' m') (N' : News (hid N g) L h' news) (hs : ∀ p ∈ allNews (hid N g) L h, p ∈ news) : Fm N g L h' m' ∧ KB N L h h' := by
  have k : KB N L h h' := KB.strict fun b o n e => by
    cases q : (hid N g).get? b with
    | some o' =>
      have := F.fr.keep b o' q
      rw [e] at this
      cases this
      exact F'.keep b _ q
    | none => exact (N' _ (hs _ (allNews_mem.mpr ⟨e, n, q⟩))).1
  exact ⟨⟨F', F.kb.trans k, F.new, F.lo⟩, k⟩
theorem kb_of0 {N : Nat} {g h h' : Heap} {L : Addr} {m m' : Str → Option Value} (F : Fm N g L h m) (F' : Fr (hid N g) L h' m') (N' : News (hid N g) L h' (allNews (hid N g) L h)) : Fm N g L h' m' ∧ KB N L h h' := kb_of F F' N' fun _ x => x
theorem kb_of1 {N : Nat} {g h h' : Heap} {L : Addr} {m m' : Str → Option Value} {p : Addr × Obj} (F : Fm N g L h m) (F' : Fr (hid N g) L h' m') (N' : News (hid N g) L h' (p :: allNews (hid N g) L h)) : Fm N g L h' m' ∧ KB N L h h' := kb_of F F' N' fun _ x => List.mem_cons_of_mem _ x

/-- a frame kept through a call that keeps all -/
theorem frK {N : Nat} {g h h' : Heap} {L : Addr} {m : Str → Option Value} (F : Fm N g L h m) (k : Kp N h h') : Fm N g L h' m :=
  ⟨⟨k.ns F.ns, fun b o e => k.hard (F.fr.keep b o e) (hid_some.mp e).2, F.fr.above⟩, F.kb.trans k.kb, F.new, F.lo⟩

/-- two lists, item by item -/
inductive F2 {α β : Type} (R : α → β → Prop) : List α → List β → Prop
  | nil : F2 R [] []
  | cons {a : α} {b : β} {as : List α} {bs : List β} : R a b → F2 R as bs → F2 R (a :: as) (b :: bs)
theorem F2.length {α β : Type} {R : α → β → Prop} {as : List α} {bs : List β} (x : F2 R as bs) : as.length = bs.length := by
  induction x with
  | nil => rfl
  | cons _ _ ih => simp [ih]
theorem F2.imp {α β : Type} {R S : α → β → Prop} {as : List α} {bs : List β} (H : ∀ a b, R a b → S a b) (x : F2 R as bs) : F2 S as bs := by
  induction x with
  | nil => exact .nil
  | cons a _ ih => exact .cons (H _ _ a) ih
theorem F2.append {α β : Type} {R : α → β → Prop} {as cs : List α} {bs ds : List β} (x : F2 R as bs) (y : F2 R cs ds) : F2 R (as ++ cs) (bs ++ ds) := by
  induction x with
  | nil => exact y
  | cons a _ ih => exact .cons a ih
theorem F2.get {α β : Type} {R : α → β → Prop} {as : List α} {bs : List β} (x : F2 R as bs) : ∀ {i : Nat} {b : β}, bs[i]? = some b → ∃ a, as[i]? = some a ∧ R a b := by
  induction x with
  | nil => intro i b h; cases h
  | cons r _ ih =>
    intro i b h
    cases i with
    | zero => simp at h; subst h; exact ⟨_, rfl, r⟩
    | succ i => simp at h; obtain ⟨a, e, q⟩ := ih h; exact ⟨a, by simpa using e, q⟩
theorem F2.get' {α β : Type} {R : α → β → Prop} {as : List α} {bs : List β} (x : F2 R as bs) : ∀ {i : Nat} {a : α}, as[i]? = some a → ∃ b, bs[i]? = some b ∧ R a b := by
  induction x with
  | nil => intro i b h; cases h
  | cons r _ ih =>
    intro i b h
    cases i with
    | zero => simp at h; subst h; exact ⟨_, rfl, r⟩
    | succ i => simp at h; obtain ⟨a, e, q⟩ := ih h; exact ⟨a, by simpa using e, q⟩
theorem F2.take {α β : Type} {R : α → β → Prop} {as : List α} {bs : List β} (x : F2 R as bs) : ∀ n, F2 R (as.take n) (bs.take n) := by
  induction x with
  | nil => intro n; simp; exact .nil
  | cons r _ ih =>
    intro n
    cases n with
    | zero => exact .nil
    | succ n => exact .cons r (ih n)
theorem F2.drop {α β : Type} {R : α → β → Prop} {as : List α} {bs : List β} (x : F2 R as bs) : ∀ n, F2 R (as.drop n) (bs.drop n) := by
  induction x with
  | nil => intro n; simp; exact .nil
  | cons r y ih =>
    intro n
    cases n with
    | zero => exact .cons r y
    | succ n => exact ih n
theorem F2.reverse {α β : Type} {R : α → β → Prop} {as : List α} {bs : List β} (x : F2 R as bs) : F2 R as.reverse bs.reverse := by
  induction x with
  | nil => exact .nil
  | cons r _ ih => rw [List.reverse_cons, List.reverse_cons]; exact ih.append (.cons r .nil)
/-- a list of ints -/
def IL (h : Heap) (v : Value) (ns : List Int) : Prop := ∃ a vs, v = .ref a ∧ h.IsList a vs.toArray ∧ IntsAre vs ns
/-- a list of lists of ints -/
def LL (h : Heap) (v : Value) (nss : List (List Int)) : Prop := ∃ a vs, v = .ref a ∧ h.IsList a vs.toArray ∧ F2 (IL h) vs nss

theorem seq_hard {N : Nat} {b : Addr} {o : Obj} {vs : Array Value} {n : Nat} (hd : o.data = .seq vs n) : ¬ soft N b o := fun q => by
  unfold soft dictAt at q
  rw [hd] at q
  cases q.2
theorem isList_ne {h : Heap} {a L : Addr} {vs : Array Value} {m : Str → Option Value} (hl : h.IsList a vs) (hn : h.Ns L m) : a ≠ L := by
  rintro rfl
  obtain ⟨o, ho, _, n, hd⟩ := hl
  obtain ⟨o', es, ep, ho', hd', _⟩ := hn
  rw [ho] at ho'
  cases ho'
  rw [hd] at hd'
  cases hd'
theorem isTup_ne {h : Heap} {a L : Addr} {vs : Array Value} {m : Str → Option Value} (hl : IsTup h a vs) (hn : h.Ns L m) : a ≠ L := by
  rintro rfl
  obtain ⟨o, ho, _, n, hd⟩ := hl
  obtain ⟨o', es, ep, ho', hd', _⟩ := hn
  rw [ho] at ho'
  cases ho'
  rw [hd] at hd'
  cases hd'
theorem isList_kp {N : Nat} {g h : Heap} {a : Addr} {vs : Array Value} (hl : g.IsList a vs) (k : Kp N g h) : h.IsList a vs := let ⟨o, ho, hc, n, hd⟩ := hl; ⟨o, k.hard ho (seq_hard hd), hc, n, hd⟩
theorem isList_kb {N : Nat} {g h : Heap} {a L : Addr} {vs : Array Value} {m : Str → Option Value} (hl : g.IsList a vs) (hn : g.Ns L m) (k : KB N L g h) : h.IsList a vs := let ⟨o, ho, hc, n, hd⟩ := id hl; ⟨o, k.hard (isList_ne hl hn) ho (seq_hard hd), hc, n, hd⟩
theorem isTup_kp {N : Nat} {g h : Heap} {a : Addr} {vs : Array Value} (hl : IsTup g a vs) (k : Kp N g h) : IsTup h a vs := let ⟨o, ho, hc, n, hd⟩ := hl; ⟨o, k.hard ho (seq_hard hd), hc, n, hd⟩
theorem isTup_kb {N : Nat} {g h : Heap} {a L : Addr} {vs : Array Value} {m : Str → Option Value} (hl : IsTup g a vs) (hn : g.Ns L m) (k : KB N L g h) : IsTup h a vs := let ⟨o, ho, hc, n, hd⟩ := id hl; ⟨o, k.hard (isTup_ne hl hn) ho (seq_hard hd), hc, n, hd⟩
theorem IL.kp {N : Nat} {g h : Heap} {v : Value} {ns : List Int} (x : IL g v ns) (k : Kp N g h) : IL h v ns := let ⟨a, vs, e, hl, hi⟩ := x; ⟨a, vs, e, isList_kp hl k, hi⟩
theorem IL.kb {N : Nat} {g h : Heap} {L : Addr} {m : Str → Option Value} {v : Value} {ns : List Int} (x : IL g v ns) (hn : g.Ns L m) (k : KB N L g h) : IL h v ns := let ⟨a, vs, e, hl, hi⟩ := x; ⟨a, vs, e, isList_kb hl hn k, hi⟩
theorem LL.kp {N : Nat} {g h : Heap} {v : Value} {nss : List (List Int)} (x : LL g v nss) (k : Kp N g h) : LL h v nss := let ⟨a, vs, e, hl, hi⟩ := x; ⟨a, vs, e, isList_kp hl k, hi.imp (fun _ _ y => y.kp k)⟩
theorem LL.kb {N : Nat} {g h : Heap} {L : Addr} {m : Str → Option Value} {v : Value} {nss : List (List Int)} (x : LL g v nss) (hn : g.Ns L m) (k : KB N L g h) : LL h v nss := let ⟨a, vs, e, hl, hi⟩ := x; ⟨a, vs, e, isList_kb hl hn k, hi.imp (fun _ _ y => y.kb hn k)⟩

noncomputable abbrev prg : Program := PySem.Challenge.pw_oc0040_01
noncomputable abbrev lse : List Str := looseW hd.view_39 [Str.ofString "_initial_missing", Str.ofString "reduce"] ++ (recsOf hd.view_39).map (·.name) ++ (litsOf hd.view_39).map (·.1) ++ (clssOf hd.view_39 (looseW hd.view_39 [Str.ofString "_initial_missing", Str.ofString "reduce"])).map (·.name)
/-- what the top has left: a ground γ below N that stands in h -/
structure G (w : World) (mean : ExcName → Option Value) (mg mb : Str → Option Value) (N : Nat) (h : Heap) : Prop where
  gnd : ∃ γ : Heap, γ.objs.size ≤ N ∧ (hd.heap_39 w.params).In γ ∧ Top topProg lse mean mg mb γ ∧ ∀ b o, γ.get? b = some o → h.get? b = some o
  low : N ≤ h.objs.size
section
variable {w : World} {mean : ExcName → Option Value} {mg mb : Str → Option Value} {N : Nat}
theorem G.X {h : Heap} (x : G w mean mg mb N h) : (hd.heap_39 w.params).In h := let ⟨_, _, X, _, k⟩ := x.gnd; fun a o e => k _ _ (X a o e)
theorem G.T {h : Heap} (x : G w mean mg mb N h) : Top topProg lse mean mg mb h := let ⟨_, _, _, T, k⟩ := x.gnd; T.keeps k
theorem G.of {g0 h : Heap} (x : G w mean mg mb N g0) (k : Kp N g0 h) (hN : N ≤ h.objs.size) : G w mean mg mb N h :=
  let ⟨γ, hz, X, T, q⟩ := x.gnd
  ⟨⟨γ, hz, X, T, fun b o e => k.hard (q b o e) fun z => Nat.lt_irrefl _ (Nat.lt_of_lt_of_le (Heap.lt_size e) (Nat.le_trans hz z.1))⟩, hN⟩
theorem G.fm {g0 h : Heap} {L : Addr} {m : Str → Option Value} (x : G w mean mg mb N g0) (F : Fm N g0 L h m) : G w mean mg mb N h :=
  x.of F.kp (Nat.le_of_lt (Nat.lt_of_le_of_lt F.lo F.ns.lt))
end

/-- the state s₀ with another heap and another count of tokens -/
def St (s₀ : Shared) (h : Heap) (tk : Nat) : Shared := { s₀ with heap := h, toks := tk }
theorem St.self (s : Shared) : s = St s s.heap s.toks := rfl
theorem iteT {b : Bool} {P R : Prop} (hb : b = true) (h : P) : if b = true then P else R := by rw [if_pos hb]; exact h
theorem iteF {b : Bool} {P R : Prop} (hb : b = false) (h : R) : if b = true then P else R := by rw [if_neg (by rw [hb]; exact Bool.false_ne_true)]; exact h

section
variable {M : Model} {w : World} {A : Around} {E : Value → Shared → Prop} {s₀ : Shared} {h : Heap} {tk : Nat} {name : Str} {scope : Scope} {L a : Addr} {cd : Value} {g0 : Heap} {N : Nat} {m : Str → Option Value} {mean : ExcName → Option Value} {mg mb : Str → Option Value}
theorem wS {x : Str} {v : Value} {Q : Unit → Shared → Prop} (F : Fm N g0 L h m)
    (q : ∀ h' tk', Fm N g0 L h' (fun y => if y = x then some v else m y) → KB N L h h' → Q () (St s₀ h' tk'))
    (hk : scope.kind = .function := by rfl) (hl : (envOf name scope L a cd).kindOf x = some .local := by rfl) :
    wpAny M A (storeName (envOf name scope L a cd) x v) Q E (St s₀ h tk) :=
  wpAny_storeName_local (s := St s₀ h tk) hl F.ns (fun h' hn hs => q h' _ (F.set hn hs) (KB.sameBut hs))
    (by show (scope.kind == .class || (scope.kind == .module && L != mainGlobals)) = false; rw [hk]; rfl)
theorem wL {x : Str} {pos : Pos} {v : Value} {Q : Value → Shared → Prop} (F : Fm N g0 L h m) (hv : m x = some v) (q : Q v (St s₀ h tk))
    (hk : scope.kind = .function := by rfl) (hl : (envOf name scope L a cd).kindOf x = some .local := by rfl)
    (hd : (x == ("__debug__" : Str)) = false := by decide) :
    wpAny M A (eval (.Name x pos) (envOf name scope L a cd)) Q E (St s₀ h tk) := ld (s := St s₀ h tk) F.fr hv q hk hl hd
theorem wLn {x : Str} {v : Value} {Q : Value → Shared → Prop} (F : Fm N g0 L h m) (hv : m x = some v) (q : Q v (St s₀ h tk))
    (hk : scope.kind = .function := by rfl) (hl : (envOf name scope L a cd).kindOf x = some .local := by rfl) :
    wpAny M A (loadName (envOf name scope L a cd) x) Q E (St s₀ h tk) := ldn (s := St s₀ h tk) F.fr hv q hk hl
/-- a name of the top -/
theorem wG {x : Str} {pos : Pos} {v : Value} {Q : Value → Shared → Prop} (F : Fm N g0 L h m) (g : G w mean mg mb N g0) (e : nsIn (hd.heap_39 w.params) mainGlobals x = some (some v)) (q : Q v (St s₀ h tk))
    (hk : scope.kind = .function := by rfl) (hx : (envOf name scope L a cd).kindOf x = some .globalImplicit := by rfl) (hdb : (x == ("__debug__" : Str)) = false := by decide) :
    wpAny M A (eval (.Name x pos) (envOf name scope L a cd)) Q E (St s₀ h tk) :=
  Name_function_global hk hx (loadGlobal_global (s := St s₀ h tk) (mg := mg) (g.fm F).T.g (mg_of g.X g.T.g e) q) hdb
/-- a built-in name -/
theorem wB {x : Str} {pos : Pos} {v : Value} {Q : Value → Shared → Prop} (F : Fm N g0 L h m) (g : G w mean mg mb N g0) (e : nsIn (hd.heap_39 w.params) mainGlobals x = some none) (hv : bootBuiltins x = some v) (q : Q v (St s₀ h tk))
    (hk : scope.kind = .function := by rfl) (hx : (envOf name scope L a cd).kindOf x = some .globalImplicit := by rfl) (hdb : (x == ("__debug__" : Str)) = false := by decide) (hnn : x ≠ "__name__" := by decide) :
    wpAny M A (eval (.Name x pos) (envOf name scope L a cd)) Q E (St s₀ h tk) :=
  Name_function_global hk hx (loadGlobal_builtin (s := St s₀ h tk) (mg := mg) (mb := mb) (g.fm F).T.g (mg_none_of g.X g.T.g e) (g.fm F).T.b ((g.T.builtins x hnn).trans hv) q) hdb
theorem wCI {env : Env} {i : Int} {k : Nat} {pos : Pos} {Q : Value → Shared → Prop} (q : ∀ u tk', Q (.int i u) (St s₀ h tk')) : wpAny M A (eval (.Constant (.int i) k pos) env) Q E (St s₀ h tk) :=
  wpAny_Constant_int (s := St s₀ h tk) (q _ _)
theorem wCB {env : Env} {x : List UInt8} {k : Nat} {pos : Pos} {Q : Value → Shared → Prop} (q : ∀ u tk', Q (.bytes x.toArray u) (St s₀ h tk')) : wpAny M A (eval (.Constant (.bytes x) k pos) env) Q E (St s₀ h tk) :=
  Constant_bytes (s := St s₀ h tk) (q _ _)
/-- no argument is starred -/
def plainEs : List PySem.Expr → Bool
  | [] => true
  | .Starred .. :: _ => false
  | _ :: r => plainEs r
/-- the arguments one by one -/
def evs (es : List PySem.Expr) (env : Env) : Sem (List Value) := spliced (es.map fun e => (false, eval e env))
theorem evs_nil {env : Env} {Q : List Value → Shared → Prop} {s : Shared} (q : Q [] s) : wpAny M A (evs [] env) Q E s := spliced_nil q
theorem evs_cons {env : Env} {e : PySem.Expr} {r : List PySem.Expr} {Q : List Value → Shared → Prop} {s : Shared}
    (q : wpAny M A (eval e env) (fun v s₁ => wpAny M A (evs r env) (fun vs s₂ => Q (v :: vs) s₂) E s₁) E s) : wpAny M A (evs (e :: r) env) Q E s := spliced_cons q
theorem starEach_plain (env : Env) : ∀ es : List PySem.Expr, plainEs es = true → starEach es env = es.map fun e => (false, eval e env)
  | [], _ => rfl
  | e :: r, h => by
    have ih := starEach_plain env r
    cases e <;> first | (exact absurd h Bool.false_ne_true) | (show (false, _) :: starEach r env = _; rw [ih h]; rfl)
theorem backTo_plain (pos : Pos) : ∀ ts : List (Sem Value), backTo pos (ts.map fun t => (false, t)) = ts.map fun t => (false, t)
  | [] => rfl
  | t :: r => by
    have ih := backTo_plain pos r
    unfold backTo at ih ⊢
    simp only [List.map_cons, List.map_map] at ih ⊢
    rw [ih]
    rfl
theorem args_plain (pos : Pos) (env : Env) {es : List PySem.Expr} (h : plainEs es = true) : backTo pos (starEach es env) = es.map fun e => (false, eval e env) := by
  rw [starEach_plain env es h]
  have := backTo_plain pos (es.map fun e => eval e env)
  rw [List.map_map] at this
  exact this
theorem any_plain (env : Env) (es : List PySem.Expr) : (es.map fun e => (false, eval e env)).any (·.1) = false := by
  rw [List.any_eq_false]
  intro x hx
  obtain ⟨e, _, rfl⟩ := List.mem_map.mp hx
  simp
/-- a built-in called -/
theorem cwB {env : Env} {pos : Pos} {id : String} {e : PySem.Expr} {r : List PySem.Expr} {Q : Value → Shared → Prop} {s : Shared}
    (q : wpAny M A (evs (e :: r) env) (fun vs s₁ => wpAny M A (call (.builtin id) vs) Q E s₁) E s) (hp : plainEs (e :: r) = true := by rfl) :
    wpAny M A (callWith pos (.builtin id) [] (backTo pos (starEach (e :: r) env)) []) Q E s := by
  rw [args_plain pos env hp]
  exact callWith_builtin (any_plain env _) (evalArgs_plain q)
/-- a built-in type called -/
theorem cwT {env : Env} {pos : Pos} {T : String} {e : PySem.Expr} {r : List PySem.Expr} {Q : Value → Shared → Prop} {s : Shared}
    (q : wpAny M A (evs (e :: r) env) (fun vs s₁ => wpAny M A (call (.type T) vs) Q E s₁) E s) (hp : plainEs (e :: r) = true := by rfl) :
    wpAny M A (callWith pos (.type T) [] (backTo pos (starEach (e :: r) env)) []) Q E s := by
  rw [args_plain pos env hp]
  exact PyProof.Rows.callWith_type (any_plain env _) (evalArgs_plain q)
/-- a def called -/
theorem cwF {env : Env} {pos : Pos} {f : Addr} {o : Obj} {fd : FuncData} {e : PySem.Expr} {r : List PySem.Expr} {Q : Value → Shared → Prop} {s : Shared} (hdat : o.data = .func fd)
    (q : wpAny M A (evs (e :: r) env) (fun vs s₁ => s₁.heap.get? f = some o ∧ wpAny M A (call (.ref f) vs) Q E s₁) E s) (hp : plainEs (e :: r) = true := by rfl) :
    wpAny M A (callWith pos (.ref f) [] (backTo pos (starEach (e :: r) env)) []) Q E s := by
  rw [args_plain pos env hp]
  exact callWith_function (o := o) (fd := fd) (evalArgs_plain (wpAny_mono q (fun vs s₁ h₁ => ⟨⟨h₁.1, hdat⟩, h₁.2⟩) fun _ _ x => x))
/-- f(..) by a name -/
theorem cN {env : Env} {x : Str} {np pos : Pos} {es : List PySem.Expr} {Q : Value → Shared → Prop} {s : Shared}
    (q : wpAny M A (eval (.Name x np) env) (fun f s₁ => wpAny M A (callWith pos f [] (backTo pos (starEach es env)) []) Q E s₁) E s) :
    wpAny M A (eval (.Call (.Name x np) es [] pos) env) Q E s := wpAny_Call_ofName q
theorem sw1 {t : PySem.Expr} {f : PySem.Expr} {as : List PySem.Expr} {ks : List Keyword} {p : Pos} {l : Nat} {env : Env} : swapsWithSole [t] (.Call f as ks p) l env = pure false := rfl
theorem sw2 {ts : List PySem.Expr} {k : Nat} {q : Pos} {f : PySem.Expr} {as : List PySem.Expr} {ks : List Keyword} {p : Pos} {env : Env} : swappedStores [.Tuple ts k q] (.Call f as ks p) env = pure none := rfl
theorem sw3 {t : PySem.Expr} {f : PySem.Expr} {as : List PySem.Expr} {ks : List Keyword} {p : Pos} {l : Nat} {env : Env} : swapsWith (.Call f as ks p) (some t) l env = pure false := rfl
theorem tup_at {h : Heap} {t : Addr} {vs : Array Value} {n : Nat} (e : h.get? t = some { cls := .type "tuple", data := .seq vs n }) : IsTup h t vs := ⟨_, e, rfl, n, rfl⟩
/-- x, y = a pair -/
theorem asg2 {prog : Program} {env : Env} {x y : Str} {p q pos : Pos} {k : Nat} {t : Addr} {v u : Value} {Q : Unit → Shared → Prop} (hh : A.handled = none) (F : Fm N g0 L h m) (ht : IsTup h t #[v, u])
    (c : ∀ h', Fm N g0 L h' m → Kp N h h' → wpAny (model prog w) A (storeName env x v) (fun _ s₁ => wpAny (model prog w) A (storeName env y u) Q E s₁) E (St s₀ h' tk)) :
    wpAny (model prog w) A (assign (.Tuple [.Name x p, .Name y q] k pos) env (.ref t)) Q E (St s₀ h tk) := by
  refine assign_Tuple_tuple (s := St s₀ h tk) hh ht rfl rfl fun h' he => ?_
  have kp : Kp N h h' := Kp.strict fun b o e => he b o (Nat.ne_of_lt (Heap.lt_size e)) e
  show wpAny _ _ (assignInOrder [assign (.Name x p) env, assign (.Name y q) env] [v, u]) _ _ _
  refine assignInOrder_cons (PyProof.Rows.assign_Name ?_)
  refine wpAny_mono (c h' (frK F kp) kp) (fun _ s₁ h₁ => ?_) fun _ _ x => x
  refine assignInOrder_cons (PyProof.Rows.assign_Name ?_)
  exact wpAny_mono h₁ (fun _ s₁ h₂ => assignInOrder_nil h₂) fun _ _ x => x
theorem wAddI {prog : Program} {x y : Int} {t u : Tok} {Q : Value → Shared → Prop} (q : ∀ v tk', Q (.int (x + y) v) (St s₀ h tk')) : wpAny (model prog w) A (binaryOp .Add (.int x t) (.int y u)) Q E (St s₀ h tk) :=
  wpAny_add_int (s := St s₀ h tk) (q _ _)
/-- x = value -/
theorem wA {x : Str} {pos' pos : Pos} {value : Expr} {rest : List Stmt} {Q : Flow → Shared → Prop} {env : Env} {s : Shared}
    (q : wpAny M A (eval value env) (fun v s₁ => wpAny M A (storeName env x v) (fun _ s₂ => wpAny M A (execs rest env) Q E s₂) E s₁) E s)
    (hs : swapsWith value (some (.Name x pos')) pos.line env = pure false := by rfl) :
    wpAny M A (execs (.Assign [.Name x pos'] value pos :: rest) env) Q E s := wpAny_execs_cons (wpAny_Assign_Name q hs)
end
end Mine
end PartM0
section PartM1
open PySem PySem.W PyProof.Rows PySem.Calls
set_option Elab.async false
set_option maxRecDepth 100000
namespace Mine
/-- the figures to the base 16 -/
def hexd (n : Nat) : List Nat := if _h : n = 0 then [] else hexd (n / 16) ++ [n % 16]
termination_by n
decreasing_by omega
/-- the letters that Int2AP gives -/
def lets (n : Nat) : List Int := (hexd n).map fun (d : Nat) => (65 + d : Int)
theorem lets_zero : lets 0 = [] := by unfold lets hexd; simp
theorem lets_pos {n : Nat} (h : n ≠ 0) : lets n = lets (n / 16) ++ [65 + ((n % 16 : Nat) : Int)] := by
  have e : hexd n = hexd (n / 16) ++ [n % 16] := by
    conv => lhs; unfold hexd
    rw [dif_neg h]
  unfold lets
  rw [e, List.map_append]
  rfl
theorem hexd_zero : hexd 0 = [] := by unfold hexd; simp
theorem hexd_pos {n : Nat} (h : n ≠ 0) : hexd n = hexd (n / 16) ++ [n % 16] := by
  conv => lhs; unfold hexd
  rw [dif_neg h]
theorem hexd_len : ∀ (k n : Nat), n < 16 ^ k → (hexd n).length ≤ k
  | 0, n, h => by have : n = 0 := by simpa using h
                  rw [this, hexd_zero]; simp
  | k + 1, n, h => by
    by_cases hn : n = 0
    · rw [hn, hexd_zero]; simp
    · rw [hexd_pos hn, List.length_append, List.length_singleton]
      have := hexd_len k (n / 16) (by rw [Nat.div_lt_iff_lt_mul (by omega)]; rw [Nat.pow_succ] at h; exact h)
      omega
theorem lets_length (n : Nat) : (lets n).length = (hexd n).length := by unfold lets; simp
def apL : List UInt8 := [65, 66, 67, 68, 69, 70, 71, 72, 73, 74, 75, 76, 77, 78, 79, 80]
theorem ap_pick : ∀ d : Nat, d < 16 → (((KBw.bInts apL.toArray).drop d).take (d + 1 - d)) = [65 + (d : Int)] := by
  decide +kernel
section
variable {w : World} {A : Around} {E : Value → Shared → Prop} {s : Shared} {Q : Value → Shared → Prop} {mean : ExcName → Option Value} {mg mb : Str → Option Value} {N : Nat}

/-- what stands between the turns of Int2AP's loop -/
def I2 (N : Nat) (g0 : Heap) (L : Addr) (s₀ : Shared) (n : Nat) (k : Nat) (s : Shared) : Prop :=
  ∃ h tk m tn b tb ta, s = St s₀ h tk ∧ Fm N g0 L h m ∧ m "num" = some (.int (k : Int) tn) ∧ m "val" = some (.bytes b tb) ∧ m "AP" = some (.bytes apL.toArray ta) ∧
    k ≤ n ∧ lets k ++ KBw.bInts b = lets n

set_option maxHeartbeats 4000000 in
theorem int2ap {n : Int} {t : Tok} (g : G w mean mg mb N s.heap) (hd : A.depth < recursionLimit) (hh : A.handled = none) (hn : 0 ≤ n) (hb : n < 2 ^ 60)
    (hQ : ∀ b tb h' tk, Kp N s.heap h' → KBw.bInts b = lets n.toNat → Q (.bytes b tb) (St s h' tk)) :
    wpAny (model prg w) A (call (.ref 21) [.int n t]) Q E s := by
  refine wpAny_call ?_
  refine call_plain_ret (binds := [("num", .int n t)]) hd (g.X 21 _ rfl) rfl g.T.nolimit (codeRec_of g.X (by rfl)) rfl (locs rfl) ?_
  intro h₁ F
  have F := Fm.enter F g.low
  show wpAny _ _ _ _ _ (St s h₁ _)
  refine wA (wCB fun tv _ => wS F fun h₂ _ F _ => ?_)
  refine wA (wCB fun ta _ => wS F fun h₃ _ F _ => ?_)
  refine wA (cN (wB F g (by kernel_rfl) boot_int (cwT (evs_cons (cN (wB F g (by kernel_rfl) boot_abs (cwB (evs_cons (wL F rfl (evs_nil ?_)))))))))) sw3
  refine call_abs_int fun u tk => evs_nil (call_int_int ?_)
  rw [if_neg (by omega)]
  show wpAny _ _ _ _ _ (St s h₃ _)
  refine wS F fun h₄ tk F _ => ?_
  have hk : n = (n.toNat : Int) := by omega
  generalize n.toNat = k at hk hQ
  refine wpAny_execs_cons (wpAny_While ?_)
  have i0 : I2 N s.heap s.heap.objs.size s k k (St s h₄ tk) := by
    refine ⟨h₄, _, _, u, #[], tv, ta, rfl, F, ?_, ?_, ?_, Nat.le_refl _, by simp [KBw.bInts]⟩
    · rw [← hk]; rfl
    · rfl
    · rfl
  refine codeAny_whileLoop (I2 N s.heap s.heap.objs.size s k) ?_ k i0
  rintro j s' ⟨h, tk, m, tn, b, tb, ta, rfl, F, e1, e2, e3, hj, hl⟩
  refine isTrue_plain (wL F e1 (PyProof.Rows.truthy_int ?_))
  by_cases hz : j = 0
  · subst hz
    refine iteF rfl ?_
    refine wpAny_execs_nil (wpAny_execs_cons (wpAny_Return_some (wL F e2 ?_)))
    refine hQ _ _ _ _ F.kp ?_
    rw [lets_zero, List.nil_append] at hl
    exact hl
  · refine iteT (by simpa using hz) ?_
    refine wpAny_execs_cons (Assign_Tuple (cN (wB F g (by kernel_rfl) boot_divmod (cwB (evs_cons (wL F e1 (evs_cons (wCI fun _ _ => evs_nil ?_))))))) sw1 sw2)
    refine divmod_N (s := St s h _) F.fr (allNews_news _ _ _) (by omega) (fun h5 F5 N5 => ?_) (Or.inl (PyProof.noPylong_small (by omega)))
    show wpAny _ _ _ _ _ (St s h5 _)
    obtain ⟨F5, k5⟩ := kb_of1 F F5 N5
    have hdm : (j : Int).fmod 16 = ((j % 16 : Nat) : Int) := by rw [Int.fmod_eq_emod_of_nonneg _ (by omega)]; omega
    have hdd : (j : Int).fdiv 16 = ((j / 16 : Nat) : Int) := by rw [Int.fdiv_eq_ediv_of_nonneg _ (by omega)]; omega
    have t5 := (N5 _ (.head _)).1
    rw [hdm, hdd] at t5
    generalize (St s h _).toks = tq at t5
    refine asg2 hh F5 (tup_at t5) fun h6 F6 k6 => ?_
    refine wS F6 fun h7 _ F7 k7 => wS F7 fun h8 _ F8 k8 => ?_
    refine wA (wpAny_BinOp (Subscript_ (wL F8 e3 (wpAny_Slice (evalPart_some_step (wL F8 rfl (evalPart_some_step (wpAny_BinOp (wL F8 rfl (wCI fun u1 _ => wAddI fun u2 tk2 => evalPart_none_step ?_)))))))))) rfl
    refine KBc.slice_K (s := St s h8 tk2) F8.fr (allNews_news _ _ _) rfl (.int _ _) (.int _ _) (by decide +kernel) (fun h9 t9 tk9 F9 N9 e9 => ?_)
    show wpAny _ _ _ _ _ (St s h9 _)
    obtain ⟨F9, k9⟩ := kb_of0 F8 F9 N9
    have hlt : j % 16 < 16 := Nat.mod_lt _ (by omega)
    have e9' : KBw.bInts (KBy.picked apL.toArray (some ((j % 16 : Nat) : Int)) (some (((j % 16 : Nat) : Int) + 1))) = [65 + ((j % 16 : Nat) : Int)] := by
      rw [e9]
      show ((KBw.bInts apL.toArray).drop (clipAt 16 ((j % 16 : Nat) : Int))).take (clipAt 16 (((j % 16 : Nat) : Int) + 1) - clipAt 16 ((j % 16 : Nat) : Int)) = _
      rw [clipAt_nat, show (((j % 16 : Nat) : Int) + 1) = ((j % 16 + 1 : Nat) : Int) by omega, clipAt_nat, Nat.min_eq_left (by omega), Nat.min_eq_left (by omega)]
      exact ap_pick _ hlt
    have hlen : (KBw.bInts b).length ≤ 15 := by
      have h1 := congrArg List.length hl
      rw [List.length_append, lets_length k] at h1
      have h2 := hexd_len 15 k (by omega)
      omega
    refine wL F9 e2 (KBy.add_bytes ?_ fun t10 tk10 => ?_)
    · have h1 := congrArg List.length e9'
      rw [KBw.ints_length] at h1 hlen
      rw [h1]
      simp only [List.length_singleton]
      omega
    show wpAny _ _ _ _ _ (St s h9 _)
    refine wS F9 fun h10 tk10 F10 k10 => wpAny_execs_nil ?_
    refine ⟨j / 16, by omega, h10, tk10, _, tq, _, t10, ta, rfl, F10, rfl, rfl, e3, by omega, ?_⟩
    rw [KBw.ints_app e9' rfl, ← hl, lets_pos hz, List.append_assoc]
end
end Mine
end PartM1
section PartM2
open PySem PySem.W PyProof.Rows PySem.Calls
set_option Elab.async false
set_option maxRecDepth 100000
namespace Mine
section
variable {prog : Program} {w : World} {A : Around} {E : Value → Shared → Prop} {s : Shared}
def ByteAt (b : Array UInt8) (i : Nat) (v : Value) : Prop := ∃ c u, b[i]? = some c ∧ v = .int (c.toNat : Int) u

theorem ext_bytes {R : Result → Shared → Prop} (hh : A.handled = none) (x : Array UInt8) (t : Tok) (S : Addr) (res : Value) (c₀ : Nat) (hS : s.heap.get? S = some { cls := .type "list", data := .seq #[] c₀ })
    (hR : ∀ h' tk acc' c', (∀ b o, b ≠ S → s.heap.get? b = some o → h'.get? b = some o) → h'.get? S = some { cls := .type "list", dict := none, data := .seq acc' c', slots := #[] } →
      ItemsOf (ByteAt x) acc' x.size → R (.ok (.ret res)) { s with heap := h', toks := tk }) (hn : x.size ≤ sizeLine) :
    wpAny (model prog w) A.in1 (Builtin.List.listExtendWith (.ref S) (.bytes x t) res)
      (fun fin s' => match fin with | .done f => R (.ok f) s' | .again c' => c'.quiet = true ∧ codeAny (model prog w) A c' R s') (fun e s' => R (.error e) s') s := by
  have hSI : S ≠ s.heap.objs.size := Nat.ne_of_lt (Heap.lt_size hS)
  have hSf : S ∉ [s.heap.objs.size] := fun hm => hSI (List.mem_singleton.mp hm)
  unfold Builtin.List.listExtendWith
  refine wpAny_bind (wpAny_typeOf (T := "bytes") (v := .bytes x t) rfl ?_)
  have h1 : Builtin.List.listSameRef (.ref S) (.bytes x t) = false := rfl
  have h2 : (Value.type "bytes" == Value.type "list") = false := by decide
  have h3 : (Value.type "bytes" == Value.type "tuple") = false := by decide
  simp only [h1, h2, h3, Bool.or_false, Bool.false_eq_true, if_false]
  refine wpAny_bind (KBw.pyIter_bytes ?_)
  refine wpAny_bind (wpAny_holding ?_)
  unfold Builtin.List.listLengthHint
  refine wpAny_bind (wpAny_specialOf (T := "bytes") (v := .bytes x t) rfl FB.slot_bytes_len.lookup ?_)
  wp_delta
  refine wpAny_bind (wpAny_isInstance (T := "bytes") (v := .bytes x t) (b := true) rfl (by rw [isSubtype_type]; kernel_rfl) ?_)
  show wpAny _ _ (typeOf (Value.bytes x t) >>= _) _ _ _
  refine wpAny_bind (wpAny_typeOf (T := "bytes") (v := .bytes x t) rfl ?_)
  refine wpAny_pure ?_
  rw [if_neg (by decide)]
  have W := (KBw.walks (prog := prog) (w := w) (A := A.in1) hh s.heap.objs.size x t).toS
  refine wpAny_pure ⟨plainId_quiet F.plain_extend_loop _, codeAny_extend_loopS W hn _ hSf _ x.size 0 _ _ _ rfl (Nat.zero_le _) ⟨_, Heap.get?_push_size _ rfl, rfl, rfl⟩ (Heap.get?_push_of_some _ hS) (ItemsOf.nil _) fun s' acc' c' hm hS' hacc => ?_⟩
  rw [Moved.eq_with hm]
  refine hR s'.heap s'.toks acc' c' (fun b ob hb e => hm.heap b ob (fun hmem => ?_) (Heap.get?_push_of_some _ e)) hS' hacc
  rcases List.mem_cons.mp hmem with e' | hmem
  · exact hb e'
  · exact absurd (Heap.lt_size e) (by rw [List.mem_singleton.mp hmem]; exact Nat.lt_irrefl _)

theorem init_bytes {R : Result → Shared → Prop} (hh : A.handled = none) (x : Array UInt8) (t : Tok) (S : Addr) (hS : s.heap.get? S = some { cls := .type "list", data := .seq #[] })
    (hR : ∀ h' tk acc' c', (∀ b o, b ≠ S → s.heap.get? b = some o → h'.get? b = some o) → h'.get? S = some { cls := .type "list", dict := none, data := .seq acc' c', slots := #[] } →
      ItemsOf (ByteAt x) acc' x.size → R (.ok (.ret .none)) { s with heap := h', toks := tk }) (hn : x.size ≤ sizeLine) :
    wpAny (model prog w) A.in1 (Builtin.«list.__init__» ⟨[.ref S, .bytes x t], []⟩)
      (fun fin s' => match fin with | .done f => R (.ok f) s' | .again c' => c'.quiet = true ∧ codeAny (model prog w) A c' R s') (fun e s' => R (.error e) s') s := by
  show wpAny _ _ (do let old ← Builtin.List.listItems (.ref S); Builtin.List.listUpdate (.ref S) (fun _ => #[]); letGo old.toList.reverse; Builtin.List.listExtendWith (.ref S) (.bytes x t) .none) _ _ s
  refine wpAny_bind ?_
  unfold Builtin.List.listItems
  refine wpAny_bind (wpAny_seqItems hS rfl (wpAny_pure ?_))
  show wpAny _ _ (updateSeq S (fun _ => #[]) >>= fun _ => letGo (#[] : Array Value).toList.reverse >>= fun _ => Builtin.List.listExtendWith (.ref S) (.bytes x t) .none) _ _ s
  refine wpAny_bind (wpAny_updateSeq hS rfl ?_)
  have hS₂ := Heap.get?_update_self (Obj.mapSeq (fun _ => (#[] : Array Value))) hS rfl
  have oth : ∀ b o, b ≠ S → s.heap.get? b = some o → (s.heap.update S (Obj.mapSeq (fun _ => (#[] : Array Value)))).get? b = some o :=
    fun b o hb e => (Heap.get?_update_other _ _ (Ne.symm hb)).trans e
  refine wpAny_bind (wpAny_letGo ?_)
  refine ext_bytes (hn := hn) hh x t S .none _ hS₂ fun h' tk acc' c' hk hS' hacc => ?_
  exact hR h' tk acc' c' (fun b o hb e => hk b o hb (oth b o hb e)) hS' hacc

theorem call_list_bytes {Q : Value → Shared → Prop} (hh : A.handled = none) (x : Array UInt8) (t : Tok)
    (hQ : ∀ h' tk acc' c', (∀ b o, s.heap.get? b = some o → h'.get? b = some o) →
      h'.get? s.heap.objs.size = some { cls := .type "list", dict := none, data := .seq acc' c', slots := #[] } → ItemsOf (ByteAt x) acc' x.size → Q (.ref s.heap.objs.size) { s with heap := h', toks := tk }) (hn : x.size ≤ sizeLine) :
    wpAny (model prog w) A (call (.type "list") [.bytes x t]) Q E s := by
  refine callType_codes (Q₁ := fun obj s₁ => obj = .ref s.heap.objs.size ∧ s₁ = { s with heap := s.heap.push { cls := .type "list", data := .seq #[] } }) F.called_list (F.typeCall_list_1 _) F.entry_list_init
    (code_list_new _ ⟨rfl, rfl⟩) fun obj s₁ h₁ => ?_
  obtain ⟨rfl, rfl⟩ := h₁
  have hS : (s.heap.push { cls := .type "list", data := .seq #[] }).get? s.heap.objs.size = some { cls := .type "list", data := .seq #[] } := Heap.get?_push_size _ rfl
  refine ⟨⟨_, hS, rfl⟩, F.args_list_init_2 _ _, init_bytes (A := A.in1) (hn := hn) hh x t _ hS fun h' tk acc' c' hk hS' hacc => ?_⟩
  exact ⟨rfl, hQ h' tk acc' c' (fun b o e => hk b o (Nat.ne_of_lt (Heap.lt_size e)) (Heap.get?_push_of_some _ e)) hS' hacc⟩

theorem ints_of_items : ∀ (acc : List Value) (x : List UInt8), acc.length = x.length → (∀ (j : Nat) (v : Value), acc[j]? = some v → ∃ (c : UInt8) (u : Tok), x[j]? = some c ∧ v = Value.int (c.toNat : Int) u) → IntsAre acc (x.map fun (c : UInt8) => (c.toNat : Int))
  | [], [], _, _ => .nil
  | [], _ :: _, h, _ => by simp at h
  | _ :: _, [], h, _ => by simp at h
  | v :: r, c :: y, h, hv => by
    obtain ⟨c', u, e1, e2⟩ := hv 0 v rfl
    simp at e1
    subst e1 e2
    exact .cons _ _ (ints_of_items r y (by simpa using h) fun j v' e => by
      obtain ⟨c', u', q1, q2⟩ := hv (j + 1) v' (by simpa using e)
      exact ⟨c', u', by simpa using q1, q2⟩)
/-- list(b) of some bytes -/
theorem listB {N : Nat} {Q : Value → Shared → Prop} {h : Heap} {tk : Nat} {x : Array UInt8} {t : Tok} {ks : List Int} (hh : A.handled = none) (hk : KBw.bInts x = ks) (hn : ks.length ≤ 16777216)
    (q : ∀ v h' tk', Kp N h h' → IL h' v ks → Q v (St s h' tk')) : wpAny (model prog w) A (call (.type "list") [.bytes x t]) Q E (St s h tk) := by
  subst hk
  rw [KBw.ints_length] at hn
  refine call_list_bytes (s := St s h tk) hh x t (fun h' tk' acc c kp hS hi => ?_) (by rw [sizeLine_eq]; exact hn)
  refine q _ h' tk' (Kp.strict kp) ⟨_, acc.toList, rfl, ⟨_, hS, rfl, c, by simp⟩, ?_⟩
  refine ints_of_items acc.toList x.toList (by simpa using hi.1) fun j v e => ?_
  obtain ⟨c', u, e1, e2⟩ := hi.2 j v (by simpa using e)
  exact ⟨c', u, by simpa using e1, e2⟩
end
end Mine
end PartM2
section PartM3
open PySem PySem.W PyProof.Rows PySem.Calls
set_option Elab.async false
set_option maxRecDepth 100000
namespace Mine
/-- the order of the dictionary -/
def ltL : List Int → List Int → Bool
  | [], [] => false
  | [], _ :: _ => true
  | _ :: _, [] => false
  | a :: x, b :: y => if a = b then ltL x y else decide (a < b)
theorem ints_get {vs : List Value} {ns : List Int} (h : IntsAre vs ns) : ∀ {i : Nat}, i < ns.length → ∃ t, vs[i]? = some (.int (ns.getD i 0) t) := by
  induction h with
  | nil => intro i hi; simp at hi
  | cons n t _ ih =>
    intro i hi
    cases i with
    | zero => exact ⟨t, rfl⟩
    | succ i => obtain ⟨u, e⟩ := ih (i := i) (by simpa using hi); exact ⟨u, by simpa using e⟩
theorem isList_obj {h : Heap} {a : Addr} {its : Array Value} (H : h.IsList a its) : ∃ d n sl, h.get? a = some ⟨.type "list", d, .seq its n, sl⟩ := by
  obtain ⟨⟨c, d, dt, sl⟩, ho, hc, n, hd⟩ := H
  dsimp only at hc hd
  subst hc hd
  exact ⟨d, n, sl, ho⟩
section
open AutoSeq1 (wpAny_loadPart')
theorem lt_loop (l b : Addr) (vs us : List Value) (xs ys : List Int) (hx : IntsAre vs xs) (hy : IntsAre us ys) (d1 d2 : Option Addr) (sl sl2 : Array (Option Value)) (n n2 : Nat) (k : Nat) :
    ∀ i : Nat, xs.length - i = k → i ≤ xs.length → i ≤ ys.length → Meets (Builtin.«list.__eq__.loop» ⟨[.ref l, .ref b, rawInt i, rawInt 0], []⟩)
      (fun _ R s => s.heap.get? l = some ⟨.type "list", d1, .seq vs.toArray n, sl⟩ ∧ s.heap.get? b = some ⟨.type "list", d2, .seq us.toArray n2, sl2⟩ ∧
        R (.ok (.ret (.bool (ltL (xs.drop i) (ys.drop i))))) s) := by
  have hlx := hx.length
  have hly := hy.length
  induction k with
  | zero =>
    intro i hk hi hj prog w A R s h
    obtain ⟨hp, g, d, tk, os⟩ := s; obtain ⟨hl, hb, h⟩ := h
    wp_walk using wpAny_loadPart' hl, wpAny_loadPart' hb
    have hi1 : vs.toArray[((i : Nat) : Int).toNat]? = none := by simp; omega
    rw [hi1]
    wp_walk using wpAny_loadPart' hl, wpAny_loadPart' hb
    show R (.ok (.ret (.bool (decide (vs.toArray.size < us.toArray.size))))) _
    have e : (ltL (xs.drop i) (ys.drop i)) = decide (vs.toArray.size < us.toArray.size) := by
      rw [List.drop_of_length_le (show xs.length ≤ i by omega), List.size_toArray, List.size_toArray, hlx, hly]
      cases q : ys.drop i with
      | nil => have q' := List.drop_eq_nil_iff.mp q
               simp only [ltL]; symm; rw [decide_eq_false_iff_not]; omega
      | cons y r =>
        have : i < ys.length := by
          apply Nat.lt_of_not_le; intro z; rw [List.drop_of_length_le z] at q; cases q
        simp only [ltL]; symm; rw [decide_eq_true_eq]; omega
    rw [← e]
    exact h
  | succ k ih =>
    intro i hk hi hj prog w A R s h
    obtain ⟨hp, g, d, tk, os⟩ := s; obtain ⟨hl, hb, h⟩ := h
    wp_walk using wpAny_loadPart' hl, wpAny_loadPart' hb
    have hlt : i < xs.length := by omega
    obtain ⟨t1, g1⟩ := ints_get hx hlt
    have hi1 : vs.toArray[((i : Nat) : Int).toNat]? = some (.int (xs.getD i 0) t1) := by simpa using g1
    have e1 : xs.drop i = xs.getD i 0 :: xs.drop (i + 1) := by rw [List.drop_eq_getElem_cons hlt]; simp [hlt]
    rw [hi1]
    by_cases hlt2 : i < ys.length
    · obtain ⟨t2, g2⟩ := ints_get hy hlt2
      have hi2 : us.toArray[((i : Nat) : Int).toNat]? = some (.int (ys.getD i 0) t2) := by simpa using g2
      have e2 : ys.drop i = ys.getD i 0 :: ys.drop (i + 1) := by rw [List.drop_eq_getElem_cons hlt2]; simp [hlt2]
      have hc : ((i : Int) + 1) = ((i + 1 : Nat) : Int) := by push_cast; rfl
      rw [hi2]
      rw [e1, e2] at h
      refine wpAny_bind (wpAny_eqBool_int ?_)
      by_cases hq : xs.getD i 0 = ys.getD i 0
      · rw [beq_iff_eq.mpr hq]
        wp_walk
        rw [hc]
        simp only [ltL, hq, if_true] at h
        exact ⟨plainId_quiet MeetsSeq3.plain_eq_loop _, codeAny_builtin MeetsSeq3.entry_eq_loop (by
          rw [Around.under_plainId MeetsSeq3.plain_eq_loop _]
          exact ih (i + 1) (by omega) (by omega) (by omega) prog w A R _ ⟨hl, hb, h⟩)⟩
      · rw [beq_eq_false_iff_ne.mpr hq]
        wp_walk using wpAny_loadPart' hl, wpAny_loadPart' hb
        rw [hi1, hi2]
        have h' : R (.ok (.ret (.bool (decide (xs.getD i 0 < ys.getD i 0))))) ⟨hp, g, d, tk, os⟩ := by
          have hq' : ¬ ys.getD i 0 = xs.getD i 0 := fun z => hq z.symm
          simp only [ltL, hq, hq', if_false] at h
          exact h
        refine wpAny_bind ?_
        exact wpAny_lt_int (wpAny_pure h')
    · have hi2 : us.toArray[((i : Nat) : Int).toNat]? = none := by simp; omega
      rw [hi2]
      wp_walk using wpAny_loadPart' hl, wpAny_loadPart' hb
      show R (.ok (.ret (.bool (decide (vs.toArray.size < us.toArray.size))))) _
      have e : (ltL (xs.drop i) (ys.drop i)) = decide (vs.toArray.size < us.toArray.size) := by
        rw [e1, List.drop_of_length_le (show ys.length ≤ i by omega), List.size_toArray, List.size_toArray, hlx, hly]
        simp only [ltL]
        symm
        rw [decide_eq_false_iff_not]; omega
      rw [← e]
      exact h
theorem gt_loop (l b : Addr) (vs us : List Value) (xs ys : List Int) (hx : IntsAre vs xs) (hy : IntsAre us ys) (d1 d2 : Option Addr) (sl sl2 : Array (Option Value)) (n n2 : Nat) (k : Nat) :
    ∀ i : Nat, xs.length - i = k → i ≤ xs.length → i ≤ ys.length → Meets (Builtin.«list.__eq__.loop» ⟨[.ref l, .ref b, rawInt i, rawInt 4], []⟩)
      (fun _ R s => s.heap.get? l = some ⟨.type "list", d1, .seq vs.toArray n, sl⟩ ∧ s.heap.get? b = some ⟨.type "list", d2, .seq us.toArray n2, sl2⟩ ∧
        R (.ok (.ret (.bool (ltL (ys.drop i) (xs.drop i))))) s) := by
  have hlx := hx.length
  have hly := hy.length
  induction k with
  | zero =>
    intro i hk hi hj prog w A R s h
    obtain ⟨hp, g, d, tk, os⟩ := s; obtain ⟨hl, hb, h⟩ := h
    wp_walk using wpAny_loadPart' hl, wpAny_loadPart' hb
    have hi1 : vs.toArray[((i : Nat) : Int).toNat]? = none := by simp; omega
    rw [hi1]
    wp_walk using wpAny_loadPart' hl, wpAny_loadPart' hb
    show R (.ok (.ret (.bool (decide (vs.toArray.size > us.toArray.size))))) _
    have e : (ltL (ys.drop i) (xs.drop i)) = decide (vs.toArray.size > us.toArray.size) := by
      rw [List.drop_of_length_le (show xs.length ≤ i by omega), List.size_toArray, List.size_toArray, hlx, hly]
      cases q : ys.drop i with
      | nil => have q' := List.drop_eq_nil_iff.mp q
               simp only [ltL]; symm; rw [decide_eq_false_iff_not]; omega
      | cons y r =>
        have : i < ys.length := by
          apply Nat.lt_of_not_le; intro z; rw [List.drop_of_length_le z] at q; cases q
        simp only [ltL]; symm; rw [decide_eq_false_iff_not]; omega
    rw [← e]
    exact h
  | succ k ih =>
    intro i hk hi hj prog w A R s h
    obtain ⟨hp, g, d, tk, os⟩ := s; obtain ⟨hl, hb, h⟩ := h
    wp_walk using wpAny_loadPart' hl, wpAny_loadPart' hb
    have hlt : i < xs.length := by omega
    obtain ⟨t1, g1⟩ := ints_get hx hlt
    have hi1 : vs.toArray[((i : Nat) : Int).toNat]? = some (.int (xs.getD i 0) t1) := by simpa using g1
    have e1 : xs.drop i = xs.getD i 0 :: xs.drop (i + 1) := by rw [List.drop_eq_getElem_cons hlt]; simp [hlt]
    rw [hi1]
    by_cases hlt2 : i < ys.length
    · obtain ⟨t2, g2⟩ := ints_get hy hlt2
      have hi2 : us.toArray[((i : Nat) : Int).toNat]? = some (.int (ys.getD i 0) t2) := by simpa using g2
      have e2 : ys.drop i = ys.getD i 0 :: ys.drop (i + 1) := by rw [List.drop_eq_getElem_cons hlt2]; simp [hlt2]
      have hc : ((i : Int) + 1) = ((i + 1 : Nat) : Int) := by push_cast; rfl
      rw [hi2]
      rw [e1, e2] at h
      refine wpAny_bind (wpAny_eqBool_int ?_)
      by_cases hq : xs.getD i 0 = ys.getD i 0
      · rw [beq_iff_eq.mpr hq]
        wp_walk
        rw [hc]
        simp only [ltL, hq, if_true] at h
        exact ⟨plainId_quiet MeetsSeq3.plain_eq_loop _, codeAny_builtin MeetsSeq3.entry_eq_loop (by
          rw [Around.under_plainId MeetsSeq3.plain_eq_loop _]
          exact ih (i + 1) (by omega) (by omega) (by omega) prog w A R _ ⟨hl, hb, h⟩)⟩
      · rw [beq_eq_false_iff_ne.mpr hq]
        wp_walk using wpAny_loadPart' hl, wpAny_loadPart' hb
        rw [hi1, hi2]
        have h' : R (.ok (.ret (.bool (decide (ys.getD i 0 < xs.getD i 0))))) ⟨hp, g, d, tk, os⟩ := by
          have hq' : ¬ ys.getD i 0 = xs.getD i 0 := fun z => hq z.symm
          simp only [ltL, hq, hq', if_false] at h
          exact h
        refine wpAny_bind ?_
        exact PyProof.Rows.gt_int (wpAny_pure h')
    · have hi2 : us.toArray[((i : Nat) : Int).toNat]? = none := by simp; omega
      rw [hi2]
      wp_walk using wpAny_loadPart' hl, wpAny_loadPart' hb
      show R (.ok (.ret (.bool (decide (vs.toArray.size > us.toArray.size))))) _
      have e : (ltL (ys.drop i) (xs.drop i)) = decide (vs.toArray.size > us.toArray.size) := by
        rw [e1, List.drop_of_length_le (show ys.length ≤ i by omega), List.size_toArray, List.size_toArray, hlx, hly]
        simp only [ltL]
        symm
        rw [decide_eq_true_eq]; omega
      rw [← e]
      exact h
theorem meets_lt (l b : Addr) (vs us : List Value) (xs ys : List Int) (hx : IntsAre vs xs) (hy : IntsAre us ys) (d1 d2 : Option Addr) (sl sl2 : Array (Option Value)) (n n2 : Nat) :
    Meets (Builtin.«list.__lt__» ⟨[.ref l, .ref b], []⟩) (fun _ R s => s.heap.get? l = some ⟨.type "list", d1, .seq vs.toArray n, sl⟩ ∧ s.heap.get? b = some ⟨.type "list", d2, .seq us.toArray n2, sl2⟩ ∧
        R (.ok (.ret (.bool (ltL xs ys)))) s) := by
  intro prog w A R s h
  obtain ⟨hp, g, d, tk, os⟩ := s; obtain ⟨hl, hb, h⟩ := h
  have f3 := AutoSeq1.sub_list_list
  wp_walk using wpAny_loadPart' hl, wpAny_loadPart' hb
  exact ⟨plainId_quiet MeetsSeq3.plain_eq_loop _, codeAny_builtin MeetsSeq3.entry_eq_loop (by
    rw [Around.under_plainId MeetsSeq3.plain_eq_loop _]
    exact lt_loop l b vs us xs ys hx hy d1 d2 sl sl2 n n2 _ 0 rfl (Nat.zero_le _) (Nat.zero_le _) prog w A R _ ⟨hl, hb, h⟩)⟩
theorem meets_gt (l b : Addr) (vs us : List Value) (xs ys : List Int) (hx : IntsAre vs xs) (hy : IntsAre us ys) (d1 d2 : Option Addr) (sl sl2 : Array (Option Value)) (n n2 : Nat) :
    Meets (Builtin.«list.__gt__» ⟨[.ref l, .ref b], []⟩) (fun _ R s => s.heap.get? l = some ⟨.type "list", d1, .seq vs.toArray n, sl⟩ ∧ s.heap.get? b = some ⟨.type "list", d2, .seq us.toArray n2, sl2⟩ ∧
        R (.ok (.ret (.bool (ltL ys xs)))) s) := by
  intro prog w A R s h
  obtain ⟨hp, g, d, tk, os⟩ := s; obtain ⟨hl, hb, h⟩ := h
  have f3 := AutoSeq1.sub_list_list
  wp_walk using wpAny_loadPart' hl, wpAny_loadPart' hb
  exact ⟨plainId_quiet MeetsSeq3.plain_eq_loop _, codeAny_builtin MeetsSeq3.entry_eq_loop (by
    rw [Around.under_plainId MeetsSeq3.plain_eq_loop _]
    exact gt_loop l b vs us xs ys hx hy d1 d2 sl sl2 n n2 _ 0 rfl (Nat.zero_le _) (Nat.zero_le _) prog w A R _ ⟨hl, hb, h⟩)⟩
end
end Mine
end PartM3
section PartM4
open PySem PySem.W PyProof.Rows PySem.Calls
set_option Elab.async false
set_option maxRecDepth 100000
namespace Mine
section
variable {prog : Program} {w : World} {A : Around} {E : Value → Shared → Prop} {s : Shared} {h : Heap} {tk : Nat} {Q : Value → Shared → Prop} {u v : Value} {xs ys : List Int}
theorem ltIL (x : IL h u xs) (y : IL h v ys) (hu : A.units < cLine) (q : Q (.bool (ltL xs ys)) (St s h tk)) : wpAny (model prog w) A (compareOp .Lt u v) Q E (St s h tk) := by
  obtain ⟨a, vs, rfl, hl, hi⟩ := x
  obtain ⟨b, us, rfl, hl2, hi2⟩ := y
  obtain ⟨d, n, sl, e⟩ := isList_obj hl
  obtain ⟨d2, n2, sl2, e2⟩ := isList_obj hl2
  exact richCompare_meets_room (s := St s h tk) (op := .Lt) ⟨_, e, rfl⟩ ⟨_, e2, rfl⟩ F.slot_list_lt F.entry_list_lt (F.args_list_lt_2 _ _) (meets_lt a b vs us xs ys hi hi2 d d2 sl sl2 n n2)
    ⟨e, e2, show Value.bool (ltL xs ys) ≠ Value.notImplemented ∧ Q (.bool (ltL xs ys)) (St s h tk) from ⟨(fun x => nomatch x), q⟩⟩ hu
theorem gtIL (x : IL h u xs) (y : IL h v ys) (hu : A.units < cLine) (q : Q (.bool (ltL ys xs)) (St s h tk)) : wpAny (model prog w) A (compareOp .Gt u v) Q E (St s h tk) := by
  obtain ⟨a, vs, rfl, hl, hi⟩ := x
  obtain ⟨b, us, rfl, hl2, hi2⟩ := y
  obtain ⟨d, n, sl, e⟩ := isList_obj hl
  obtain ⟨d2, n2, sl2, e2⟩ := isList_obj hl2
  exact richCompare_meets_room (s := St s h tk) (op := .Gt) ⟨_, e, rfl⟩ ⟨_, e2, rfl⟩ F.slot_list_gt F.entry_list_gt (F.args_list_gt_2 _ _) (meets_gt a b vs us xs ys hi hi2 d d2 sl sl2 n n2)
    ⟨e, e2, show Value.bool (ltL ys xs) ≠ Value.notImplemented ∧ Q (.bool (ltL ys xs)) (St s h tk) from ⟨(fun x => nomatch x), q⟩⟩ hu
theorem eqIL (x : IL h u xs) (y : IL h v ys) (hu : A.units + 64 < cLine) (q : Q (.bool (decide (xs = ys))) (St s h tk)) : wpAny (model prog w) A (compareOp .Eq u v) Q E (St s h tk) := by
  obtain ⟨a, vs, rfl, hl, hi⟩ := x
  obtain ⟨b, us, rfl, hl2, hi2⟩ := y
  exact eq_intsK (s := St s h tk) hl hi hl2 hi2 hu q
end
section
variable {w : World} {A : Around} {E : Value → Shared → Prop} {s : Shared} {Q : Value → Shared → Prop} {mean : ExcName → Option Value} {mg mb : Str → Option Value} {N : Nat}
/-- three_way_cmp -/
def cmp3 (xs ys : List Int) : Int := b2i (ltL ys xs) - b2i (ltL xs ys)
set_option maxHeartbeats 4000000 in
theorem three {x y : Value} {xs ys : List Int} (g : G w mean mg mb N s.heap) (hd : A.depth < recursionLimit) (hu : A.units + 64 < cLine) (hx : IL s.heap x xs) (hy : IL s.heap y ys)
    (hQ : ∀ t h' tk, Kp N s.heap h' → Q (.int (cmp3 xs ys) t) (St s h' tk)) :
    wpAny (model prg w) A (call (.ref 35) [x, y]) Q E s := by
  refine wpAny_call ?_
  refine call_plain_ret (binds := [("x", x), ("y", y)]) hd (g.X 35 _ rfl) rfl g.T.nolimit (codeRec_of g.X (by rfl)) rfl (locs rfl) ?_
  intro h₁ F
  have F := Fm.enter F g.low
  show wpAny _ _ _ _ _ (St s h₁ _)
  have hx := hx.kp F.kp
  have hy := hy.kp F.kp
  refine wpAny_execs_cons (wpAny_Return_some (wpAny_BinOp (wpAny_Compare1 (wL F rfl (wL F rfl (gtIL hx hy ?_ (wpAny_Compare1 (wL F rfl (wL F rfl (ltIL hx hy ?_ ?_))))))))))
  · show A.units + 3 < cLine; omega
  · show A.units + 3 < cLine; omega
  exact sub_bool (s := St s h₁ _) (hQ _ _ _ F.kp)
end
end Mine
end PartM4
section PartM5
open PySem PySem.W PyProof.Rows PySem.Calls
set_option Elab.async false
set_option maxRecDepth 100000
namespace Mine
section
variable {M : Model} {prog : Program} {w : World} {A : Around} {E : Value → Shared → Prop} {s : Shared} {h : Heap} {tk : Nat} {Q : Value → Shared → Prop} {env : Env}
/-- [e, ..] -/
theorem wList {es : List PySem.Expr} {pos : Pos} {s' : Shared} (q : wpAny M A (evs es env) (fun vs s₁ => wpAny M A (newList vs) Q E s₁) E s') (hp : plainEs es = true := by rfl) : wpAny M A (eval (.List es pos) env) Q E s' := by
  refine List_ ?_
  rw [args_plain pos env hp]
  exact q
theorem wTuple {es : List PySem.Expr} {k : Nat} {pos : Pos} {s' : Shared} (q : wpAny M A (evs es env) (fun vs s₁ => wpAny M A (newTuple vs) Q E s₁) E s') (hp : plainEs es = true := by rfl) : wpAny M A (eval (.Tuple es k pos) env) Q E s' := by
  refine Tuple_ ?_
  rw [args_plain pos env hp]
  exact q
theorem wNew {N : Nat} {g0 : Heap} {L : Addr} {m : Str → Option Value} {vs : List Value} (F : Fm N g0 L h m) (hz : vs.length ≤ 16777216) (q : ∀ a h', Fm N g0 L h' m → Kp N h h' → h'.IsList a vs.toArray → h.get? a = none → Q (.ref a) (St s h' tk)) : wpAny M A (newList vs) Q E (St s h tk) :=
  wpAny_newList (s := St s h tk) (q _ _ (frK F (Kp.push _ _)) (Kp.push _ _) ⟨_, Heap.get?_push_size _ rfl, rfl, 0, rfl⟩ (Heap.get?_none_of_le (Nat.le_refl _))) (by rw [sizeLine_eq]; exact hz)
theorem wNewT {N : Nat} {g0 : Heap} {L : Addr} {m : Str → Option Value} {vs : List Value} (F : Fm N g0 L h m) (hz : vs.length ≤ 16777216) (q : ∀ a h', Fm N g0 L h' m → Kp N h h' → IsTup h' a vs.toArray → h.get? a = none → Q (.ref a) (St s h' tk)) : wpAny M A (newTuple vs) Q E (St s h tk) :=
  wpAny_newTuple (s := St s h tk) (q _ _ (frK F (Kp.push _ _)) (Kp.push _ _) ⟨_, Heap.get?_push_size _ rfl, rfl, 0, rfl⟩ (Heap.get?_none_of_le (Nat.le_refl _))) (by rw [sizeLine_eq]; exact hz)
/-- a list + a list -/
theorem wCat {N : Nat} {g0 : Heap} {L : Addr} {m : Str → Option Value} {a b : Addr} {xs ys : List Value} (F : Fm N g0 L h m) (x : h.IsList a xs.toArray) (y : h.IsList b ys.toArray) (hz : xs.length + ys.length ≤ 16777216)
    (q : ∀ c h', Fm N g0 L h' m → KB N L h h' → h'.IsList c (xs ++ ys).toArray → Q (.ref c) (St s h' tk)) : wpAny (model prog w) A (binaryOp .Add (.ref a) (.ref b)) Q E (St s h tk) := by
  refine add_lists (s := St s h tk) F.fr (allNews_news _ L h) x y (fun h' F' N' => ?_) (by rw [sizeLine_eq]; exact hz)
  obtain ⟨F1, k1⟩ := kb_of1 F F' N'
  exact q _ h' F1 k1 (N'.isList (.head _))
end
/-- the beginnings of a number's letters -/
def begs (n : Nat) : List (List Int) := if _h : n = 0 then [] else begs (n / 16) ++ [lets n]
termination_by n
decreasing_by omega
theorem begs_zero : begs 0 = [] := by unfold begs; simp
theorem begs_pos {n : Nat} (h : n ≠ 0) : begs n = begs (n / 16) ++ [lets n] := by
  conv => lhs; unfold begs
  rw [dif_neg h]
theorem begs_len : ∀ (k n : Nat), n < 16 ^ k → (begs n).length ≤ k
  | 0, n, h => by have : n = 0 := by simpa using h
                  rw [this, begs_zero]; simp
  | k + 1, n, h => by
    by_cases hn : n = 0
    · rw [hn, begs_zero]; simp
    · rw [begs_pos hn, List.length_append, List.length_singleton]
      have := begs_len k (n / 16) (by rw [Nat.div_lt_iff_lt_mul (by omega)]; rw [Nat.pow_succ] at h; exact h)
      omega
section
variable {w : World} {A : Around} {E : Value → Shared → Prop} {s : Shared} {Q : Value → Shared → Prop} {mean : ExcName → Option Value} {mg mb : Str → Option Value} {N : Nat}
theorem lets_len16 {n : Nat} (h : n < 2 ^ 60) : (lets n).length ≤ 15 := by rw [lets_length]; exact hexd_len 15 n (by omega)
/-- what stands between the turns of _law_beginnings -/
def IB (N : Nat) (g0 : Heap) (L : Addr) (s₀ : Shared) (n : Nat) (k : Nat) (s : Shared) : Prop :=
  ∃ h tk m tn v gs, s = St s₀ h tk ∧ Fm N g0 L h m ∧ m "number" = some (.int (k : Int) tn) ∧ m "grown" = some v ∧ LL h v gs ∧ k ≤ n ∧ begs k ++ gs = begs n

set_option maxHeartbeats 4000000 in
theorem beginnings {n : Int} {t : Tok} (g : G w mean mg mb N s.heap) (hd : A.depth + 1 < recursionLimit) (hh : A.handled = none) (hn : 0 ≤ n) (hb : n < 2 ^ 60)
    (hQ : ∀ v h' tk, Kp N s.heap h' → LL h' v (begs n.toNat) → Q v (St s h' tk)) :
    wpAny (model prg w) A (call (.ref 58) [.int n t]) Q E s := by
  refine wpAny_call ?_
  refine call_plain_ret (binds := [("number", .int n t)]) (by omega) (g.X 58 _ rfl) rfl g.T.nolimit (codeRec_of g.X (by rfl)) rfl (locs rfl) ?_
  intro h₁ F
  have F := Fm.enter F g.low
  show wpAny _ _ _ _ _ (St s h₁ _)
  refine wA (wList (evs_nil (wNew F (by simp) fun a h₂ F k₂ l₂ _ => ?_)))
  refine wS F fun h₃ tk F' k₃ => ?_
  have l₃ := isList_kb l₂ F.ns k₃
  have hk : n = (n.toNat : Int) := by omega
  generalize n.toNat = k at hk hQ
  refine wpAny_execs_cons (wpAny_While ?_)
  have i0 : IB N s.heap s.heap.objs.size s k k (St s h₃ tk) := by
    refine ⟨h₃, _, _, t, _, [], rfl, F', ?_, rfl, ⟨a, [], rfl, l₃, .nil⟩, Nat.le_refl _, by simp⟩
    rw [← hk]; rfl
  refine codeAny_whileLoop (IB N s.heap s.heap.objs.size s k) ?_ k i0
  rintro j s' ⟨h, tk, m, tn, v, gs, rfl, F, e1, e2, ll, hj, hl⟩
  refine wpAny_isTrue_Compare1 (wL F e1 (wCI fun _ _ => PyProof.Rows.gt_int (wpAny_truthy_bool ?_))) rfl
  by_cases hz : j = 0
  · subst hz
    refine iteF rfl ?_
    refine wpAny_execs_nil (wpAny_execs_cons (wpAny_Return_some (wL F e2 ?_)))
    refine hQ _ _ _ F.kp ?_
    rw [begs_zero, List.nil_append] at hl
    rw [← hl]
    exact ll
  · refine iteT (by rw [decide_eq_true_eq]; omega) ?_
    have hjb : j < 2 ^ 60 := by omega
    refine wA (wpAny_BinOp (wList (evs_cons (cN (wB F g (by kernel_rfl) boot_list (cwT (evs_cons (cN (wG F g (by kernel_rfl) (cwF rfl (evs_cons (wL F e1 (evs_nil ⟨(g.fm F).X 21 _ rfl, ?_⟩))))))))))))) rfl
    refine int2ap (s := St s h _) (g.fm F) (by show A.depth + 1 < _; omega) hh (by omega) (by omega) fun b tb h4 tk4 k4 eb => evs_nil ?_
    show wpAny _ _ _ _ _ (St s h4 _)
    have F := frK F k4
    have ll := ll.kp k4
    refine listB (by exact hh) eb (by have := lets_len16 hjb; simp only [Int.toNat_natCast]; omega) fun v5 h5 tk5 (k5 : Kp N _ _) il5 => evs_nil (wNew (frK F k5) (by simp) fun a6 h6 F k6 l6 _ => ?_)
    have ll := (ll.kp k5).kp k6
    have il6 := il5.kp k6
    rw [Int.toNat_natCast] at il6
    obtain ⟨av, vs, rfl, hlv, hvs⟩ := ll
    refine wL F e2 ?_
    have hgl : gs.length ≤ 15 := by
      have h1 := congrArg List.length hl
      rw [List.length_append] at h1
      have h2 := begs_len 15 k (by omega)
      omega
    refine wCat F l6 hlv (by have := hvs.length; simp; omega) fun c h7 F7 k7 l7 => ?_
    have ll7 : LL h7 (.ref c) (lets j :: gs) := ⟨c, _, rfl, l7, .cons (il6.kb F.ns k7) (hvs.imp fun _ _ y => y.kb F.ns k7)⟩
    refine wS F7 fun h8 _ F8 k8 => ?_
    have ll8 := ll7.kb F7.ns k8
    refine wA (wpAny_BinOp (wL F8 e1 (wCI fun u9 tk9 => ?_))) rfl
    refine floordiv_int (s := St s h8 tk9) (by omega) ?_ (Or.inl (PyProof.noPylong_small (by omega)))
    show wpAny _ _ _ _ _ (St s h8 _)
    have hdd : (j : Int).fdiv 16 = ((j / 16 : Nat) : Int) := by rw [Int.fdiv_eq_ediv_of_nonneg _ (by omega)]; omega
    rw [hdd]
    refine wS F8 fun h10 tk10 F10 k10 => wpAny_execs_nil ?_
    refine ⟨j / 16, by omega, h10, tk10, _, _, _, _, rfl, F10, rfl, rfl, ll8.kb F8.ns k10, by omega, ?_⟩
    rw [← hl, begs_pos hz, List.append_assoc]
    rfl
end
end Mine
end PartM5
section PartM6
open PySem PySem.W PyProof.Rows PySem.Calls
set_option Elab.async false
set_option maxRecDepth 100000
namespace Mine
/-- a plain list object -/
def PL (h : Heap) (a : Addr) (vs : List Value) : Prop := ∃ n, h.get? a = some { cls := .type "list", data := .seq vs.toArray n }
theorem PL.isList {h : Heap} {a : Addr} {vs : List Value} (x : PL h a vs) : h.IsList a vs.toArray := let ⟨n, e⟩ := x; ⟨_, e, rfl, n, rfl⟩
theorem PL.kp {N : Nat} {g h : Heap} {a : Addr} {vs : List Value} (x : PL g a vs) (k : Kp N g h) : PL h a vs := let ⟨n, e⟩ := x; ⟨n, k.hard e (seq_hard rfl)⟩
theorem PL.kb {N : Nat} {g h : Heap} {L a : Addr} {m : Str → Option Value} {vs : List Value} (x : PL g a vs) (hn : g.Ns L m) (k : KB N L g h) : PL h a vs := let ⟨n, e⟩ := id x; ⟨n, k.hard (isList_ne x.isList hn) e (seq_hard rfl)⟩
theorem PL.other {h h' : Heap} {a b : Addr} {vs : List Value} (x : PL h a vs) (hs : Heap.SameBut b h h') (hab : a ≠ b) : PL h' a vs := let ⟨n, e⟩ := x; ⟨n, (hs.2 a hab).trans e⟩
/-- a frame behind the change of an object of its own -/
theorem frU {N : Nat} {g h h' : Heap} {L b : Addr} {m : Str → Option Value} (F : Fm N g L h m) (hs : Heap.SameBut b h h') (hL : b ≠ L) (hg : g.get? b = none) : Fm N g L h' m :=
  ⟨⟨F.ns.sameBut hs (Ne.symm hL), fun c o e => (hs.2 c fun z => by rw [z] at e; have := (hid_some.mp e).1; rw [hg] at this; cases this).trans (F.fr.keep c o e), F.fr.above⟩,
   fun c o n e => by
     obtain ⟨sl, e1, q⟩ := F.kb c o n e
     exact ⟨sl, (hs.2 c fun z => by rw [z, hg] at e; cases e).trans e1, q⟩, F.new, F.lo⟩
section
variable {M : Model} {prog : Program} {w : World} {A : Around} {E : Value → Shared → Prop} {s : Shared} {h : Heap} {tk : Nat} {name : Str} {scope : Scope} {N : Nat} {g0 : Heap} {L a : Addr} {cd : Value} {m : Str → Option Value}
theorem wNewP {Q : Value → Shared → Prop} {vs : List Value} (F : Fm N g0 L h m) (hz : vs.length ≤ 16777216) (q : ∀ a h', Fm N g0 L h' m → Kp N h h' → PL h' a vs → h.get? a = none → Q (.ref a) (St s h' tk)) : wpAny M A (newList vs) Q E (St s h tk) :=
  wpAny_newList (s := St s h tk) (q _ _ (frK F (Kp.push _ _)) (Kp.push _ _) ⟨0, Heap.get?_push_size _ rfl⟩ (Heap.get?_none_of_le (Nat.le_refl _))) (by rw [sizeLine_eq]; exact hz)
/-- x += k -/
theorem wAug {x : Str} {p pos cp : Pos} {i k : Int} {t : Tok} {kd : Nat} {rest : List Stmt} {Q : Flow → Shared → Prop} (F : Fm N g0 L h m) (hv : m x = some (.int i t))
    (q : ∀ u h' tk', Fm N g0 L h' (fun y => if y = x then some (.int (i + k) u) else m y) → KB N L h h' → wpAny (model prog w) A (execs rest (envOf name scope L a cd)) Q E (St s h' tk'))
    (hk : scope.kind = .function := by rfl) (hl : (envOf name scope L a cd).kindOf x = some .local := by rfl) :
    wpAny (model prog w) A (execs (.AugAssign (.Name x p) .Add (.Constant (.int k) kd cp) pos :: rest) (envOf name scope L a cd)) Q E (St s h tk) :=
  wpAny_execs_cons (wpAny_AugAssign_Name (wLn F hv (wCI fun u tk1 => wpAny_iadd_int (s := St s h tk1) (wS (s₀ := s) (h := h) F (fun h' tk' F' k' => q _ h' tk' F' k') hk hl)) hk hl))
/-- an item of a list -/
theorem wItem {Q : Value → Shared → Prop} {value : PySem.Expr} {x : Str} {p : Pos} {l : Addr} {vs : List Value} {k : Int} {t : Tok} {v : Value} (hl : h.IsList l vs.toArray) (h0 : 0 ≤ k) (hk : k < 2 ^ 63) (hx : vs[k.toNat]? = some v) (q : Q v (St s h tk)) :
    wpAny (model prog w) A (subscriptTail value (.Name x p) (.ref l) (.int k t)) Q E (St s h tk) :=
  tail_any (s := St s h tk) (ops := [.ref l, .int k t]) hl.typeIs slot_list_getitem.lookup (wpAny_getItem_list (s := St s h tk) hl h0 hk (by simpa using hx) q) rfl
theorem wItemOut {Q : Value → Shared → Prop} {value : PySem.Expr} {x : Str} {p : Pos} {l : Addr} {vs : List Value} {k : Int} {t : Tok} (hh : A.handled = none) (hl : h.IsList l vs.toArray) (h0 : (vs.length : Int) ≤ k) (hk : k < 2 ^ 63)
    (q : ∀ h' tk' e, Heap.NewExc h h' e "IndexError" → E (.ref e) (St s h' tk')) :
    wpAny (model prog w) A (subscriptTail value (.Name x p) (.ref l) (.int k t)) Q E (St s h tk) :=
  tail_any (s := St s h tk) (ops := [.ref l, .int k t]) hl.typeIs slot_list_getitem.lookup (wpAny_getItem_list_out (s := St s h tk) hh hl (.inr (by rw [List.size_toArray]; exact h0)) (by omega) hk fun h' tk' e x => q h' tk' e x) rfl
/-- xs[i:] -/
theorem wFrom {Q : Value → Shared → Prop} {lo : PySem.Expr} {x : Str} {p xp : Pos} {l : Addr} {vs : List Value} {i : Nat} {t : Tok} (F : Fm N g0 L h m) (hl : h.IsList l vs.toArray) (hz : vs.length ≤ 16777216)
    (q : ∀ c h', Fm N g0 L h' m → KB N L h h' → PL h' c (vs.drop i) → h.get? c = none → Q (.ref c) (St s h' tk)) :
    wpAny (model prog w) A (subscriptTail (.Name x xp) (.Slice (some lo) none none p) (.ref l) (.ref h.objs.size)) Q E (St s (h.push { cls := .type "slice", data := .fields #[.int (i : Int) t, .none, .none] }) tk) := by
  refine slice_list (s := St s h tk) (m := m) F.fr (allNews_news _ L h) hl (.int _ _) .none (fun h' F' N' => ?_) rfl (fun _ => rfl) (by rw [List.size_toArray, sizeLine_eq]; exact hz)
  obtain ⟨F1, k1⟩ := kb_of1 F F' N'
  have n0 := N' _ (.head _)
  refine q _ h' F1 k1 ⟨0, ?_⟩ (Heap.get?_none_of_le (by show h.objs.size ≤ h.objs.size + 1; omega))
  have e := n0.1
  rw [slicePick_from'] at e
  simpa using e
theorem callApp {Q : Value → Shared → Prop} {D : Addr} {vs : List Value} {v : Value} (pl : PL h D vs) (hz : vs.length ≤ 16777216)
    (q : ∀ h', Heap.SameBut D h h' → PL h' D (vs ++ [v]) → Q .none (St s h' tk)) : wpAny (model prog w) A (call (.builtin "list.append") [.ref D, v]) Q E (St s h tk) := by
  obtain ⟨n, e⟩ := pl
  refine call_meets (s := St s h tk) PySem.F.slot_list_append ⟨_, e, rfl⟩ PySem.F.entry_list_append (PySem.F.args_list_append_2 _ _) (PySem.AutoListH.list_append_list_val_0 D vs.toArray n v (by rw [List.size_toArray, sizeLine_eq]; exact hz)) ⟨e, ?_⟩
  have z := IsL.update e (fun x => x.push v)
  have e1 : (vs ++ [v]).toArray = vs.toArray.push v := by simp
  exact q _ (Heap.SameBut.update ..) ⟨_, by rw [e1]; exact z⟩
theorem callExt {Q : Value → Shared → Prop} {D b : Addr} {vs us : List Value} (pl : PL h D vs) (pb : PL h b us) (hz : vs.length + us.length ≤ 16777216)
    (q : ∀ h', Heap.SameBut D h h' → PL h' D (vs ++ us) → Q .none (St s h' tk)) : wpAny (model prog w) A (call (.builtin "list.extend") [.ref D, .ref b]) Q E (St s h tk) := by
  obtain ⟨n, e⟩ := pl
  obtain ⟨n2, e2⟩ := pb
  have ht : Builtin.List.listTooLong (vs.toArray.size + us.toArray.size) = false := by
    unfold Builtin.List.listTooLong
    simp only [List.size_toArray, decide_eq_false_iff_not]
    first | omega | (rw [sizeLine_eq]; omega)
  refine call_meets (s := St s h tk) PySem.F.slot_list_extend ⟨_, e, rfl⟩ PySem.F.entry_list_extend (PySem.F.args_list_extend_2 _ _) (PySem.AutoSeq1.list_extend_list_list_0 D vs.toArray n b us.toArray n2 (by rw [ht]; simp) (by rw [List.size_toArray, sizeLine_eq]; omega) (by rw [List.size_toArray, List.size_toArray, sizeLine_eq]; omega)) ⟨e, e2, ?_⟩
  have z := IsL.update e (fun x => x ++ us.toArray)
  have e1 : (vs ++ us).toArray = vs.toArray ++ us.toArray := by simp
  exact q _ (Heap.SameBut.update ..) ⟨_, by rw [e1]; exact z⟩
/-- xs.meth(e); -/
theorem wMeth {Q : Flow → Shared → Prop} {o meth : Str} {id : String} {p apos pos ep : Pos} {e : PySem.Expr} {rest : List Stmt} {D : Addr} {vs : List Value} (F : Fm N g0 L h m) (hv : m o = some (.ref D)) (pl : PL h D vs)
    (slot : Slot "list" meth id) (hty : typeOf (.builtin id) = pure (.type "method_descriptor"))
    (q : wpAny (model prog w) A (eval e (envOf name scope L a cd)) (fun y s₁ => wpAny (model prog w) A (call (.builtin id) [.ref D, y]) (fun _ s₂ => wpAny (model prog w) A (execs rest (envOf name scope L a cd)) Q E s₂) E s₁) E (St s h tk))
    (hp : plainEs [e] = true := by rfl) (hline : (apos.endLine == ep.line) = true := by rfl)
    (hbase : attributeBase (.Name o p) meth (envOf name scope L a cd) (eval (.Name o p) (envOf name scope L a cd)) = eval (.Name o p) (envOf name scope L a cd) := by rfl)
    (hk : scope.kind = .function := by rfl) (hl : (envOf name scope L a cd).kindOf o = some .local := by rfl) (hd : (o == ("__debug__" : Str)) = false := by decide)
    (hi : interactive (envOf name scope L a cd) = false := by rfl) (hs : swapsWith (.Call (.Attribute (.Name o p) meth apos) [e] [] ep) none pos.line (envOf name scope L a cd) = pure false := by rfl) :
    wpAny (model prog w) A (execs (.Expr (.Call (.Attribute (.Name o p) meth apos) [e] [] ep) pos :: rest) (envOf name scope L a cd)) Q E (St s h tk) := by
  refine wpAny_execs_cons (wpAny_Expr_any ?_ hi hs)
  refine wpAny_Call_method1_late hbase hline (args_plain ep _ hp) (wL F hv ?_ hk hl hd)
  obtain ⟨n, e0⟩ := pl
  refine ⟨"list", id, PySem.F.plainAttrs_list, slot, hty, ⟨_, e0, rfl⟩, fun b hb => by cases hb; exact ⟨_, e0, rfl⟩, ?_⟩
  exact callWith_builtin rfl (evalArgs_plain (spliced_cons (wpAny_mono q (fun y s₁ h₁ => spliced_nil h₁) fun _ _ z => z)))
end
end Mine
end PartM6
section PartM7
open PySem PySem.W PyProof.Rows PySem.Calls
set_option Elab.async false
set_option maxRecDepth 100000
namespace Mine
/-- the frames on the stack lie in the heap -/
def FOk (N : Nat) (h : Heap) (l : List Env) : Prop := ∀ env ∈ l, env.scope.kind ≠ .module ∧ ∃ f o, env.frame = some f ∧ N ≤ f ∧ h.get? f = some o ∧ dictAt o = true
theorem FOk.kp {N : Nat} {g h : Heap} {l : List Env} (x : FOk N g l) (k : Kp N g h) : FOk N h l := fun env he => by
  obtain ⟨hk, f, o, hf, hN, ho, hd⟩ := x env he
  obtain ⟨sl, e, _⟩ := k _ _ ho
  exact ⟨hk, f, _, hf, hN, e, hd⟩
theorem FOk.cons {N : Nat} {g h : Heap} {l : List Env} {L a : Addr} {cd : Value} {name : Str} {scope : Scope} {m : Str → Option Value} (x : FOk N g l) (F : Fm N g L h m) (hk : scope.kind = .function) : FOk N h (envOf name scope L a cd :: l) := fun env he => by
  rcases List.mem_cons.mp he with rfl | he
  · obtain ⟨o, es, ep, ho, hd, _⟩ := F.ns
    refine ⟨by show scope.kind ≠ .module; rw [hk]; decide, L, o, rfl, F.lo, ho, ?_⟩
    unfold dictAt; rw [hd]
  · exact x.kp F.kp env he
theorem FOk.funs {N : Nat} {h : Heap} : ∀ {l : List Env}, FOk N h l → h.FunFrames (hid N h) l
  | [], _ => trivial
  | env :: r, x => by
    obtain ⟨hk, f, o, hf, hN, ho, hd⟩ := x env (.head _)
    refine ⟨hk, ⟨f, o, hf, ?_, ho, fun vs q => ?_⟩, FOk.funs fun e he => x e (.tail _ he)⟩
    · cases z : (hid N h).get? f with
      | none => rfl
      | some o' =>
        obtain ⟨e1, n1⟩ := hid_some.mp z
        rw [ho] at e1
        cases e1
        exact absurd ⟨hN, hd⟩ n1
    · unfold dictAt at hd; rw [q] at hd; cases hd

/-- an IndexError on its way in this frame, raised over h -/
def Hx (N : Nat) (h : Heap) (l : List Env) (e : Addr) (fl : Value) (h' : Heap) : Prop :=
  (hid N h).StaysIn h' ∧ (hid N h).get? e = none ∧ h'.FunFrames (hid N h) l ∧ (∃ a0, h'.TracedAtW (hid N h) e (.type "IndexError") a0 fl) ∧ h.UpToSlots h'
theorem Hx.kp {N : Nat} {h h' : Heap} {l : List Env} {e : Addr} {fl : Value} (x : Hx N h l e fl h') : Kp N h h' := fun b o eo => by
  by_cases hs : soft N b o
  · obtain ⟨sl, e1⟩ := x.2.2.2.2 b o eo fun vs q => by
      have := hs.2
      unfold dictAt at this
      rw [q] at this
      cases this
    exact ⟨sl, e1, fun n => absurd hs n⟩
  · exact ⟨o.slots, x.1 b o (hid_some.mpr ⟨eo, hs⟩), fun _ => rfl⟩
section
variable {M : Model} {prog : Program} {w : World} {A : Around} {E : Value → Shared → Prop} {s : Shared} {N : Nat} {h h1 : Heap} {tk : Nat} {env : Env} {outer : List Env} {L e : Addr} {fl : Value}
theorem note1 {Q : Unit → Shared → Prop} (hfr : A.frames = some (env :: outer)) (hf : env.frame = some L) (fo : FOk N h (env :: outer)) (hx : Heap.NewExc h h1 e "IndexError")
    (q : ∀ h2, Hx N h (env :: outer) e (rawInt L) h2 → Q () (St s h2 tk)) : wpAny M A (noteFrame (.ref e) env) Q E (St s h1 tk) := by
  obtain ⟨ob, t, he, hc, hdt⟩ := hx.there
  have hen : (hid N h).get? e = none := by
    cases z : (hid N h).get? e with
    | none => rfl
    | some o => have := (hid_some.mp z).1; rw [hx.new] at this; cases this
  unfold noteFrame
  simp only [hf]
  refine wpAny_bind (wpAny_field (s := St s h1 tk) he hdt (x := .none) rfl ?_)
  rw [if_neg (by decide)]
  refine wpAny_entryW (s := St s h1 tk) (base := hid N h) hfr (fo.funs.of_keeps fun b o hb _ => ⟨o, hx.keeps b o hb, rfl⟩) hf he (fun b o eb => hx.keeps b o (hid_some.mp eb).1) hen hdt (by simp) (a0 := t) rfl fun h' hN => ?_
  obtain ⟨k1, k2, k3, k4⟩ := hN
  rw [hc] at k3
  exact q h' ⟨k1, hen, k2, ⟨_, k3⟩, fun b o eb hn => k4 b o (hx.keeps b o eb) hn⟩
theorem noteAgain {Q : Unit → Shared → Prop} (hf : env.frame = some L) (hx : Hx N h outer e (rawInt L) h1) (q : Q () (St s h1 tk)) : wpAny M A (noteFrame (.ref e) env) Q E (St s h1 tk) := by
  obtain ⟨_, _, _, ⟨a0, k⟩, _⟩ := hx
  exact wpAny_noteFrame_againW (s := St s h1 tk) hf k q
theorem flight {Q : Unit → Shared → Prop} {fr : Option Addr} (hx : Hx N h outer e fl h1) (q : ∀ h2, Hx N h outer e (fr.elim .none fun f => rawInt f) h2 → Q () (St s h2 tk)) : wpAny M A (setFlight (.ref e) fr) Q E (St s h1 tk) := by
  obtain ⟨k1, k2, k3, ⟨a0, oe, vs, T, oT, ts, he, hcls, hd, h1', hnT, hTe, hT, hdT, h3⟩, k5⟩ := hx
  have hsz3 : 3 < ts.size := (Array.getElem?_eq_some_iff.mp h3).1
  have other : ∀ b, b ≠ T → (h1.update T (Obj.mapFields (·.setIfInBounds 3 (fr.elim Value.none fun f => rawInt f)))).get? b = h1.get? b :=
    fun b hb => Heap.get?_update_other _ _ (Ne.symm hb)
  have noRec : ∀ b o, h1.get? b = some o → (∀ vs, o.data ≠ .fields vs) → b ≠ T := fun b o hb hnf z => by
    rw [z, hT] at hb; injection hb with hb; subst hb; exact hnf ts hdT
  unfold setFlight
  refine wpAny_bind (wpAny_field (s := St s h1 tk) he hd h1' ?_)
  rw [if_pos (show (Value.ref T != Value.none) = true from by simp)]
  refine wpAny_setField (s := St s h1 tk) hT hdT hsz3 (q _ ⟨fun b o hbo => (other b fun z => by rw [z, hnT] at hbo; cases hbo).trans (k1 b o hbo), k2,
    k3.of_keeps fun b o hb hnf => ⟨o, (other b (noRec b o hb hnf)).trans hb, rfl⟩, ⟨a0, oe, vs, T, _, _, (other e (Ne.symm hTe)).trans he, hcls, hd, h1', hnT, hTe,
      Heap.get?_update_self _ hT (Obj.isFreed_of_fields (Obj.data_mapFields hdT _)), Obj.data_mapFields hdT _, by simp [hsz3]⟩, fun b o eb hn => ?_⟩)
  obtain ⟨sl, z⟩ := k5 b o eb hn
  exact ⟨sl, (other b (noRec b _ z hn)).trans z⟩
theorem cameBack (hf : env.frame = some L) (hx : Hx N h outer e fl h1) (q : ∀ h2, Hx N h outer e (rawInt L) h2 → E (.ref e) (St s h2 tk)) : cameBackBy M A env E (.ref e) (St s h1 tk) := by
  unfold cameBackBy
  have hx' := hx
  obtain ⟨k1, k2, k3, ⟨a0, oe, vs, T, oT, ts, he, hcls, hd, h1', hnT, hTe, hT, hdT, h3⟩, k5⟩ := hx
  refine wpAny_bind (wpAny_field (s := St s h1 tk) he hd h1' ?_)
  rw [if_neg (by simp), hf]
  exact flight hx' fun h2 x => q h2 x
theorem typeIx {s : Shared} {l : List Env} (hx : Hx N h l e fl h1) : (St s h1 tk).TypeIs (.ref e) "IndexError" := by
  obtain ⟨k1, k2, k3, ⟨a0, oe, vs, T, oT, ts, he, hcls, hd, h1', hnT, hTe, hT, hdT, h3⟩, k5⟩ := hx
  exact ⟨oe, he, hcls.1⟩
end
section
variable {w : World} {A : Around} {E : Value → Shared → Prop} {s : Shared} {N : Nat} {h h1 g0 : Heap} {tk : Nat} {outer : List Env} {L a e : Addr} {fl : Value} {name : Str} {scope : Scope} {cd : Value} {m : Str → Option Value} {mean : ExcName → Option Value} {mg mb : Str → Option Value}
/-- except IndexError: -/
theorem caughtIx {Q : Flow → Shared → Prop} {np pos : Pos} {b₀ : Stmt} {suite : List Stmt} {rest : List ExceptHandler} (g : G w mean mg mb N g0) (F : Fm N g0 L h m) (hx : Hx N h (envOf name scope L a cd :: outer) e fl h1)
    (k : ∀ h2, Fm N g0 L h2 m → Kp N h h2 → wpAny (model prg w) (A.mark (some (.ref e))) (execs (b₀ :: suite) (envOf name scope L a cd)) Q
      (notedBy (model prg w) (A.mark (some (.ref e))) (envOf name scope L a cd) (cameBackBy (model prg w) A (envOf name scope L a cd) E)) (St s h2 tk))
    (hk : scope.kind = .function := by rfl) (hxn : (envOf name scope L a cd).kindOf "IndexError" = some .globalImplicit := by rfl) :
    wpAny (model prg w) A (setFlight (.ref e) none) (fun _ s₃ => wpAny (model prg w) A (handleBy (.ref e) (envOf name scope L a cd) (.ExceptHandler (some (.Name "IndexError" np)) none (b₀ :: suite) pos :: rest)) Q E s₃) E (St s h1 tk) := by
  refine flight hx fun h2 x2 => ?_
  refine wpAny_handleBy_builtin (s := St s h2 tk) (X := "IndexError") (T := "IndexError") (b := true) PySem.F.isExc_IndexError PySem.F.notTuple_IndexError PySem.F.self_IndexError ?_
  refine wB (frK F x2.kp) g (by kernel_rfl) PyProof.Rows.Boot.«IndexError» ⟨rfl, typeIx x2, ?_⟩ hk hxn
  refine iteT rfl ?_
  exact flight x2 fun h3 x3 => k h3 (frK F x3.kp) x3.kp
end
end Mine
end PartM7
section PartM8
open PySem PySem.W PyProof.Rows PySem.Calls
set_option Elab.async false
set_option maxRecDepth 100000
namespace Mine
theorem ltL_irr : ∀ x : List Int, ltL x x = false
  | [] => rfl
  | a :: x => by simp only [ltL, if_true]; exact ltL_irr x
theorem ltL_asym : ∀ x y : List Int, ltL x y = true → ltL y x = false
  | [], [], h => by cases h
  | [], _ :: _, _ => rfl
  | _ :: _, [], h => by cases h
  | a :: x, b :: y, h => by
    simp only [ltL] at h ⊢
    by_cases e : a = b
    · rw [if_pos e] at h
      rw [if_pos e.symm]
      exact ltL_asym x y h
    · rw [if_neg e, decide_eq_true_eq] at h
      rw [if_neg (Ne.symm e), decide_eq_false_iff_not]
      omega
section
variable {w : World} {A : Around} {E : Value → Shared → Prop} {s : Shared} {N : Nat} {h g0 : Heap} {tk : Nat} {outer : List Env} {L a : Addr} {name : Str} {scope : Scope} {cd : Value} {m : Str → Option Value} {mean : ExcName → Option Value} {mg mb : Str → Option Value}
/-- while lst[x] == y: .. where it is not -/
theorem loopNo {Q : Flow → Shared → Prop} {lst x y : Str} {p1 p2 p3 p4 p5 p6 : Pos} {body : List Stmt} {l : Addr} {vs : List Value} {i : Int} {ti : Tok} {v u : Value} {xs ys : List Int} (F : Fm N g0 L h m)
    (e1 : m lst = some (.ref l)) (hl : h.IsList l vs.toArray) (e2 : m x = some (.int i ti)) (h0 : 0 ≤ i) (hi : i < 2 ^ 63) (hv : vs[i.toNat]? = some v) (iv : IL h v xs) (e3 : m y = some u) (iu : IL h u ys) (hne : xs ≠ ys) (hu : A.units + 64 < cLine)
    (q : Q .next (St s h tk))
    (hk : scope.kind = .function := by rfl) (l1 : (envOf name scope L a cd).kindOf lst = some .local := by rfl) (l2 : (envOf name scope L a cd).kindOf x = some .local := by rfl) (l3 : (envOf name scope L a cd).kindOf y = some .local := by rfl)
    (d1 : (lst == ("__debug__" : Str)) = false := by decide) (d2 : (x == ("__debug__" : Str)) = false := by decide) (d3 : (y == ("__debug__" : Str)) = false := by decide) :
    wpAny (model prg w) A (exec (.While (.Compare (.Subscript (.Name lst p1) (.Name x p2) p3) [.Eq] [.Name y p4] p5) body [] p6) (envOf name scope L a cd)) Q E (St s h tk) := by
  refine wpAny_While (codeAny_whileLoop (fun _ s' => s' = St s h tk) ?_ 0 rfl)
  rintro _ _ rfl
  refine wpAny_isTrue_Compare1 (Subscript_ (wL F e1 (wL F e2 (wItem hl h0 hi hv (wL F e3 (eqIL iv iu hu (wpAny_truthy_bool (iteF (by simpa using hne) (wpAny_execs_nil q)))) hk l3 d3)) hk l2 d2) hk l1 d1)) rfl
/-- the same where the place lies behind the list -/
theorem loopOut {Q : Flow → Shared → Prop} {lst x y : Str} {p1 p2 p3 p4 p5 p6 : Pos} {body : List Stmt} {l : Addr} {vs : List Value} {i : Int} {ti : Tok} (F : Fm N g0 L h m) (hh : A.handled = none)
    (hfr : A.frames = some (envOf name scope L a cd :: outer)) (fo : FOk N g0 outer)
    (e1 : m lst = some (.ref l)) (hl : h.IsList l vs.toArray) (e2 : m x = some (.int i ti)) (h0 : (vs.length : Int) ≤ i) (hi : i < 2 ^ 63)
    (q : ∀ e h2 tk', Hx N h (envOf name scope L a cd :: outer) e (rawInt L) h2 → E (.ref e) (St s h2 tk'))
    (hk : scope.kind = .function := by rfl) (l1 : (envOf name scope L a cd).kindOf lst = some .local := by rfl) (l2 : (envOf name scope L a cd).kindOf x = some .local := by rfl)
    (d1 : (lst == ("__debug__" : Str)) = false := by decide) (d2 : (x == ("__debug__" : Str)) = false := by decide) :
    wpAny (model prg w) A (exec (.While (.Compare (.Subscript (.Name lst p1) (.Name x p2) p3) [.Eq] [.Name y p4] p5) body [] p6) (envOf name scope L a cd)) Q E (St s h tk) := by
  refine wpAny_While (codeAny_whileLoop (fun _ s' => s' = St s h tk) ?_ 0 rfl)
  rintro _ _ rfl
  refine wpAny_isTrue_Compare1 (Subscript_ (wL F e1 (wL F e2 (wItemOut hh hl h0 hi fun h1 tk1 e hx => ?_) hk l2 d2) hk l1 d1)) rfl
  unfold notedBy
  refine note1 hfr rfl (fo.cons F hk) hx fun h2 x2 => ?_
  exact cameBack rfl x2 fun h3 x3 => q e h3 tk1 x3
/-- missing.extend(expected[i:]); unexpected.extend(actual[j:]); break -/
theorem hnd {Q : Flow → Shared → Prop} {p1 p2 p3 p4 p5 p6 p7 p8 r1 r2 r3 r4 r5 r6 r7 r8 bp : Pos} {le la Mi U : Addr} {evs avs us : List Value} {i j : Nat} {ti tj : Tok} (F : Fm N g0 L h m)
    (e1 : m "expected" = some (.ref le)) (e2 : m "actual" = some (.ref la)) (e3 : m "i" = some (.int (i : Int) ti)) (e4 : m "j" = some (.int (j : Int) tj)) (e5 : m "missing" = some (.ref Mi)) (e6 : m "unexpected" = some (.ref U))
    (hE : g0.IsList le evs.toArray) (hA : g0.IsList la avs.toArray) (pM : PL h Mi []) (pU : PL h U us) (hMU : Mi ≠ U) (gM : g0.get? Mi = none) (gU : g0.get? U = none) (z1 : evs.length ≤ 1000) (z2 : avs.length ≤ 1000) (z3 : us.length ≤ 1000)
    (q : ∀ h' tk', Fm N g0 L h' m → PL h' Mi (evs.drop i) → PL h' U (us ++ avs.drop j) → Q .brk (St s h' tk'))
    (n1 : (p2.endLine == p7.line) = true := by rfl) (n2 : (r2.endLine == r7.line) = true := by rfl)
    (hk : scope.kind = .function := by rfl) (l1 : (envOf name scope L a cd).kindOf "expected" = some .local := by rfl) (l2 : (envOf name scope L a cd).kindOf "actual" = some .local := by rfl) (l3 : (envOf name scope L a cd).kindOf "i" = some .local := by rfl)
    (l4 : (envOf name scope L a cd).kindOf "j" = some .local := by rfl) (l5 : (envOf name scope L a cd).kindOf "missing" = some .local := by rfl) (l6 : (envOf name scope L a cd).kindOf "unexpected" = some .local := by rfl) (hi : interactive (envOf name scope L a cd) = false := by rfl) :
    wpAny (model prg w) A (execs [.Expr (.Call (.Attribute (.Name "missing" p1) "extend" p2) [.Subscript (.Name "expected" p3) (.Slice (some (.Name "i" p4)) none none p5) p6] [] p7) p8,
      .Expr (.Call (.Attribute (.Name "unexpected" r1) "extend" r2) [.Subscript (.Name "actual" r3) (.Slice (some (.Name "j" r4)) none none r5) r6] [] r7) r8, .Break bp] (envOf name scope L a cd)) Q E (St s h tk) := by
  refine wMeth F e5 pM PySem.F.slot_list_extend PySem.F.type_list_extend ?_ rfl n1 rfl hk l5 (by decide) hi rfl
  refine Subscript_ (wL F e1 (wpAny_Slice (evalPart_some_step (wL F e3 (evalPart_none_step (evalPart_none_step ?_)) hk l3 (by decide)))) hk l1 (by decide))
  refine wFrom F (isList_kp hE F.kp) (by omega) fun c h1 F1 k1 p1' nc => ?_
  have pM1 := pM.kb F.ns k1
  have pU1 := pU.kb F.ns k1
  refine callExt pM1 p1' (by simp; omega) fun h2 sb2 pM2 => ?_
  have F2 := frU F1 sb2 (isList_ne pM1.isList F1.ns) gM
  have pU2 := pU1.other sb2 (Ne.symm hMU)
  refine wMeth F2 e6 pU2 PySem.F.slot_list_extend PySem.F.type_list_extend ?_ rfl n2 rfl hk l6 (by decide) hi rfl
  refine Subscript_ (wL F2 e2 (wpAny_Slice (evalPart_some_step (wL F2 e4 (evalPart_none_step (evalPart_none_step ?_)) hk l4 (by decide)))) hk l2 (by decide))
  refine wFrom F2 (isList_kp hA F2.kp) (by omega) fun c3 h3 F3 k3 p3' nc3 => ?_
  have pM3 := pM2.kb F2.ns k3
  have pU3 := pU2.kb F2.ns k3
  refine callExt pU3 p3' (by simp; omega) fun h4 sb4 pU4 => ?_
  have F4 := frU F3 sb4 (isList_ne pU3.isList F3.ns) gU
  have pM4 := pM3.other sb4 hMU
  exact wpAny_execs_cons (wpAny_Break (q h4 _ F4 (by simpa using pM4) pU4))
/-- return (x, y) -/
theorem retT {Q : Flow → Shared → Prop} {x y : Str} {p1 p2 p3 p4 : Pos} {kk : Nat} {v u : Value} {rest : List Stmt} (F : Fm N g0 L h m) (e1 : m x = some v) (e2 : m y = some u)
    (q : ∀ t h', Fm N g0 L h' m → Kp N h h' → IsTup h' t #[v, u] → Q (.ret (.ref t)) (St s h' tk))
    (hk : scope.kind = .function := by rfl) (l1 : (envOf name scope L a cd).kindOf x = some .local := by rfl) (l2 : (envOf name scope L a cd).kindOf y = some .local := by rfl)
    (d1 : (x == ("__debug__" : Str)) = false := by decide) (d2 : (y == ("__debug__" : Str)) = false := by decide) :
    wpAny (model prg w) A (execs (.Return (some (.Tuple [.Name x p1, .Name y p2] kk p3)) p4 :: rest) (envOf name scope L a cd)) Q E (St s h tk) :=
  wpAny_execs_cons (wpAny_Return_some (wTuple (evs_cons (wL F e1 (evs_cons (wL F e2 (evs_nil (wNewT F (by simp) fun t h' F' k' ht _ => q t h' F' k' ht)) hk l2 d2)) hk l1 d1))))
/-- what stands between the turns of sorted_list_difference -/
def ID (N : Nat) (g0 : Heap) (L : Addr) (s₀ : Shared) (le la : Addr) (avs : List Value) (k : Nat) (n : Nat) (s : Shared) : Prop :=
  ∃ h tk m i j U Mi ti tj, s = St s₀ h tk ∧ Fm N g0 L h m ∧ m "expected" = some (.ref le) ∧ m "actual" = some (.ref la) ∧ m "i" = some (.int ((i : Nat) : Int) ti) ∧ m "j" = some (.int ((j : Nat) : Int) tj) ∧
    m "missing" = some (.ref Mi) ∧ m "unexpected" = some (.ref U) ∧ PL h Mi [] ∧ PL h U ((avs.take j).drop k) ∧ Mi ≠ U ∧ g0.get? Mi = none ∧ g0.get? U = none ∧
    i = min j k ∧ (j < avs.length ∨ avs.length = 0) ∧ j + n = avs.length
theorem getD_some {α : Type} {l : List α} {i : Nat} {d : α} (h : i < l.length) : l[i]? = some (l.getD i d) := by simp [h]

set_option maxHeartbeats 8000000 in
theorem sld {x y : Value} {es as : List (List Int)} {k : Nat} (g : G w mean mg mb N s.heap) (hd : A.depth < recursionLimit) (hu : A.units + 100 < cLine) (hh : A.handled = none)
    (hfr : A.frames = some outer) (fo : FOk N s.heap outer) {Q : Value → Shared → Prop} (hE : LL s.heap x es) (hA : LL s.heap y as) (z1 : es.length ≤ 1000) (z2 : as.length ≤ 1000)
    (hk1 : k < es.length) (hk2 : k ≤ as.length) (eqs : ∀ i, i < k → es.getD i [] = as.getD i []) (ord : ∀ j, k ≤ j → j < as.length → ltL (as.getD j []) (es.getD k []) = true)
    (dE : ∀ i, i + 1 < es.length → es.getD (i + 1) [] ≠ es.getD i []) (dA : ∀ i, i + 1 < as.length → as.getD (i + 1) [] ≠ as.getD i [])
    (hQ : ∀ t v1 v2 h' tk, Kp N s.heap h' → IsTup h' t #[v1, v2] → LL h' v1 (es.drop k) → LL h' v2 (as.drop k) → Q (.ref t) (St s h' tk)) :
    wpAny (model prg w) A (call (.ref 28) [x, y]) Q E s := by
  obtain ⟨le, evs, rfl, hle, he2⟩ := hE
  obtain ⟨la, avs, rfl, hla, ha2⟩ := hA
  have hel := he2.length
  have hal := ha2.length
  refine wpAny_call ?_
  refine call_plain_ret (binds := [("expected", .ref le), ("actual", .ref la)]) hd (g.X 28 _ rfl) rfl g.T.nolimit (codeRec_of g.X (by rfl)) rfl (locs rfl) ?_
  intro h₁ F
  have F := Fm.enter F g.low
  show wpAny _ _ _ _ _ (St s h₁ _)
  refine wpAny_execs_cons (wpAny_Assign_two (wCI fun t0 _ => PyProof.Rows.assign_Name (wS F fun h2 _ F2 k2 => PyProof.Rows.assign_Name (wS F2 fun h3 _ F3 k3 => ?_))) rfl rfl)
  refine wA (wList (evs_nil (wNewP F3 (by simp) fun Mi h4 F4 k4 pM nM => wS F4 fun h5 _ F5 k5 => ?_)))
  have pM5 := pM.kb F4.ns k5
  refine wA (wList (evs_nil (wNewP F5 (by simp) fun U h6 F6 k6 pU nU => wS F6 fun h7 tk7 F7 k7 => ?_)))
  have pM7 := (pM5.kp k6).kb F6.ns k7
  have pU7 := pU.kb F6.ns k7
  have gM : s.heap.get? Mi = none := by
    cases z : s.heap.get? Mi with
    | none => rfl
    | some o => obtain ⟨sl, e1, _⟩ := F3.kp _ _ z; rw [e1] at nM; cases nM
  have gU : s.heap.get? U = none := by
    cases z : s.heap.get? U with
    | none => rfl
    | some o => obtain ⟨sl, e1, _⟩ := F5.kp _ _ z; rw [e1] at nU; cases nU
  have hMU : Mi ≠ U := fun z => by obtain ⟨n, e⟩ := pM5; rw [z, nU] at e; cases e
  refine wpAny_execs_cons (wpAny_While ?_)
  have i0 : ID N s.heap s.heap.objs.size s le la avs k avs.length (St s h7 tk7) := by
    refine ⟨h7, tk7, _, 0, 0, U, Mi, t0, t0, rfl, F7, rfl, rfl, rfl, rfl, rfl, rfl, pM7, by simpa using pU7, hMU, gM, gU, by omega, by omega, by omega⟩
  refine codeAny_whileLoop (ID N s.heap s.heap.objs.size s le la avs k) ?_ avs.length i0
  rintro n s' ⟨h, tk, m, i, j, U, Mi, ti, tj, rfl, F, e1, e2, e3, e4, e5, e6, pM, pU, hMU, gM, gU, hij, hj, hn⟩
  refine isTrue_plain (wpAny_Constant_bool (wpAny_truthy_bool (iteT rfl ?_)))
  have hik : i ≤ k := by omega
  obtain ⟨ev, hev, iev⟩ := he2.get (getD_some (d := []) (show i < es.length by omega))
  have hA' : (A.deeper (envOf "sorted_list_difference" default s.heap.objs.size 28 .none)).handled = none := hh
  refine wpAny_execs_cons (wpAny_Try_except ?_)
  refine wA (Subscript_ (wL F e1 (wL F e3 (wItem (isList_kp hle F.kp) (by omega) (by omega) (by simpa using hev) (wS F fun h2 tk2 F2 k2 => ?_))))) rfl
  have pM2 := pM.kb F.ns k2
  have pU2 := pU.kb F.ns k2
  by_cases hj0 : j < avs.length
  · obtain ⟨av, hav, iav⟩ := ha2.get (getD_some (d := []) (show j < as.length by omega))
    refine wA (Subscript_ (wL F2 e2 (wL F2 e4 (wItem (isList_kp hla F2.kp) (by omega) (by omega) (by simpa using hav) (wS F2 fun h3 tk3 F3 k3 => ?_))))) rfl
    have pM3 := pM2.kb F2.ns k3
    have pU3 := pU2.kb F2.ns k3
    have un3 : A.units + 3 + 64 < cLine := by omega
    have ie3 := iev.kp F3.kp
    have ia3 := iav.kp F3.kp
    by_cases hjk : j < k
    · have hi : i = j := by omega
      subst hi
      have eq1 := eqs i hjk
      have ieq : IL h3 av (es.getD i []) := by rw [eq1]; exact ia3
      refine wpAny_execs_cons (wpAny_If (wpAny_isTrue_Compare1 (wL F3 rfl (wL F3 rfl (ltIL ie3 ieq (by show A.units + 3 < cLine; omega) (wpAny_truthy_bool (iteF (ltL_irr _) ?_))))) rfl))
      refine wpAny_execs_cons (wpAny_If (wpAny_isTrue_Compare1 (wL F3 rfl (wL F3 rfl (gtIL ie3 ieq (by show A.units + 3 < cLine; omega) (wpAny_truthy_bool (iteF (ltL_irr _) ?_))))) rfl))
      refine wAug F3 e3 fun u4 h4 tk4 F4 k4 => ?_
      have pM4 := pM3.kb F3.ns k4
      have pU4 := pU3.kb F3.ns k4
      refine wpAny_execs_cons (wpAny_Try_finally ?_)
      -- the inner loop over expected ends at once
      obtain ⟨ev1, hev1, iev1⟩ := he2.get (getD_some (d := []) (show i + 1 < es.length by omega))
      refine wpAny_execs_cons (loopNo (i := (i : Int) + 1) F4 e1 (isList_kp hle F4.kp) rfl (by omega) (by omega) (v := ev1) (by simpa using hev1) (iev1.kp F4.kp) rfl (iev.kp F4.kp) (dE i (by omega)) un3 ?_)
      refine wpAny_execs_nil (wpAny_execs_nil ?_)
      refine wAug F4 e4 fun u5 h5 tk5 F5 k5 => ?_
      have pM5 := pM4.kb F4.ns k5
      have pU5 := pU4.kb F4.ns k5
      by_cases hlast : i + 1 < avs.length
      · obtain ⟨av1, hav1, iav1⟩ := ha2.get (getD_some (d := []) (show i + 1 < as.length by omega))
        refine wpAny_execs_cons (loopNo (i := (i : Int) + 1) F5 e2 (isList_kp hla F5.kp) rfl (by omega) (by omega) (v := av1) (by simpa using hav1) (iav1.kp F5.kp) rfl (iav.kp F5.kp) (dA i (by omega)) un3 ?_)
        repeat refine wpAny_execs_nil ?_
        refine ⟨n - 1, by omega, h5, tk5, _, i + 1, i + 1, U, Mi, u4, u5, rfl, F5, e1, e2, rfl, rfl, e5, e6, pM5, ?_, hMU, gM, gU, by omega, .inl hlast, by omega⟩
        rw [List.drop_eq_nil_of_le (by rw [List.length_take]; omega)] at pU5 ⊢
        exact pU5
      · refine wpAny_execs_cons (loopOut (outer := outer) (i := (i : Int) + 1) F5 hh (Around.frames_deeper hfr) fo e2 (isList_kp hla F5.kp) rfl (by omega) (by omega) fun e h6 tk6 x6 => ?_)
        unfold notedBy
        refine noteAgain rfl x6 (cameBack rfl x6 fun h7 x7 => noteAgain rfl x7 (caughtIx g F5 x7 fun h8 F8 k8 => ?_))
        refine hnd (i := i + 1) (j := i + 1) F8 e1 e2 rfl rfl e5 e6 hle hla (pM5.kp k8) (pU5.kp k8) hMU gM gU (by omega) (by omega) (by rw [List.length_drop, List.length_take]; omega) fun h9 tk9 F9 pM9 pU9 => ?_
        refine retT F9 e5 e6 fun t h10 F10 k10 ht => ?_
        have hki : i + 1 = k := by omega
        rw [hki] at pM9 pU9
        rw [List.drop_eq_nil_of_le (by rw [List.length_take]; omega), List.nil_append] at pU9
        exact hQ t _ _ h10 tk9 F10.kp ht ⟨Mi, _, rfl, (pM9.kp k10).isList, (he2.drop k).imp fun _ _ z => z.kp F10.kp⟩ ⟨U, _, rfl, (pU9.kp k10).isList, (ha2.drop k).imp fun _ _ z => z.kp F10.kp⟩
    · have hi : i = k := by omega
      subst hi
      have o1 := ord j (by omega) (by omega)
      refine wpAny_execs_cons (wpAny_If (wpAny_isTrue_Compare1 (wL F3 rfl (wL F3 rfl (ltIL ie3 ia3 (by show A.units + 3 < cLine; omega) (wpAny_truthy_bool (iteF (ltL_asym _ _ o1) ?_))))) rfl))
      refine wpAny_execs_cons (wpAny_If (wpAny_isTrue_Compare1 (wL F3 rfl (wL F3 rfl (gtIL ie3 ia3 (by show A.units + 3 < cLine; omega) (wpAny_truthy_bool (iteT o1 ?_))))) rfl))
      refine wMeth F3 e6 pU3 PySem.F.slot_list_append PySem.F.type_list_append (wL F3 rfl (callApp pU3 (by rw [List.length_drop, List.length_take]; omega) fun h4 sb4 pU4 => ?_))
      have F4 := frU F3 sb4 (isList_ne pU3.isList F3.ns) gU
      have pM4 := pM3.other sb4 hMU
      have hus : (avs.take j).drop i ++ [av] = (avs.take (j + 1)).drop i := by
        have e0 : avs.take (j + 1) = avs.take j ++ [av] := by rw [List.take_add_one, hav]; rfl
        rw [e0, List.drop_append_of_le_length (by rw [List.length_take]; omega)]
      rw [hus] at pU4
      refine wAug F4 e4 fun u5 h5 tk5 F5 k5 => ?_
      have pM5 := pM4.kb F4.ns k5
      have pU5 := pU4.kb F4.ns k5
      by_cases hlast : j + 1 < avs.length
      · obtain ⟨av1, hav1, iav1⟩ := ha2.get (getD_some (d := []) (show j + 1 < as.length by omega))
        refine wpAny_execs_cons (loopNo (i := (j : Int) + 1) F5 e2 (isList_kp hla F5.kp) rfl (by omega) (by omega) (v := av1) (by simpa using hav1) (iav1.kp F5.kp) rfl (iav.kp F5.kp) (dA j (by omega)) un3 ?_)
        repeat refine wpAny_execs_nil ?_
        exact ⟨n - 1, by omega, h5, tk5, _, i, j + 1, U, Mi, ti, u5, rfl, F5, e1, e2, e3, rfl, e5, e6, pM5, pU5, hMU, gM, gU, by omega, .inl hlast, by omega⟩
      · refine wpAny_execs_cons (loopOut (outer := outer) (i := (j : Int) + 1) F5 hh (Around.frames_deeper hfr) fo e2 (isList_kp hla F5.kp) rfl (by omega) (by omega) fun e h6 tk6 x6 => ?_)
        refine noteAgain rfl x6 (caughtIx g F5 x6 fun h8 F8 k8 => ?_)
        refine hnd (i := i) (j := j + 1) F8 e1 e2 e3 rfl e5 e6 hle hla (pM5.kp k8) (pU5.kp k8) hMU gM gU (by omega) (by omega) (by rw [List.length_drop, List.length_take]; omega) fun h9 tk9 F9 pM9 pU9 => ?_
        refine retT F9 e5 e6 fun t h10 F10 k10 ht => ?_
        rw [List.take_of_length_le (by omega), List.drop_eq_nil_of_le (show avs.length ≤ j + 1 by omega), List.append_nil] at pU9
        exact hQ t _ _ h10 tk9 F10.kp ht ⟨Mi, _, rfl, (pM9.kp k10).isList, (he2.drop i).imp fun _ _ z => z.kp F10.kp⟩ ⟨U, _, rfl, (pU9.kp k10).isList, (ha2.drop i).imp fun _ _ z => z.kp F10.kp⟩
  · refine wA (Subscript_ (wL F2 e2 (wL F2 e4 (wItemOut hh (isList_kp hla F2.kp) (by omega) (by omega) fun h3 tk3 e hx => ?_)))) rfl
    refine note1 (Around.frames_deeper hfr) rfl (fo.cons F2 rfl) hx fun h4 x4 => caughtIx g F2 x4 fun h8 F8 k8 => ?_
    refine hnd (i := i) (j := j) F8 e1 e2 e3 e4 e5 e6 hle hla (pM2.kp k8) (pU2.kp k8) hMU gM gU (by omega) (by omega) (by rw [List.length_drop, List.length_take]; omega) fun h9 tk9 F9 pM9 pU9 => ?_
    refine retT F9 e5 e6 fun t h10 F10 k10 ht => ?_
    have hk0 : k = 0 := by omega
    have hi0 : i = 0 := by omega
    have hj0' : j = 0 := by omega
    subst hk0 hi0 hj0'
    rw [List.take_zero, List.drop_nil, List.nil_append] at pU9
    exact hQ t _ _ h10 tk9 F10.kp ht ⟨Mi, _, rfl, (pM9.kp k10).isList, (he2.drop 0).imp fun _ _ z => z.kp F10.kp⟩ ⟨U, _, rfl, (pU9.kp k10).isList, (ha2.drop 0).imp fun _ _ z => z.kp F10.kp⟩
end
end Mine
end PartM8
section PartM9
open PySem PySem.W PyProof.Rows PySem.Calls
set_option Elab.async false
set_option maxRecDepth 100000
namespace Mine
section
variable {M : Model} {prog : Program} {w : World} {A : Around} {E : Value → Shared → Prop} {s : Shared} {h : Heap} {tk : Nat} {name : Str} {scope : Scope} {N : Nat} {g0 : Heap} {L a : Addr} {cd : Value} {m : Str → Option Value}
/-- an item of a tuple at a written place -/
theorem wItemT {Q : Value → Shared → Prop} {value : PySem.Expr} {c : Const} {kd : Nat} {p : Pos} {l : Addr} {vs : List Value} {k : Nat} {t : Tok} {v : Value} (hl : IsTup h l vs.toArray) (hk : k < 1000) (hx : vs[k]? = some v) (q : Q v (St s h tk)) :
    wpAny (model prog w) A (subscriptTail value (.Constant c kd p) (.ref l) (.int (k : Int) t)) Q E (St s h tk) := by
  refine item_tupleT (s := St s h tk) hl (by omega) (by omega) (j := k) ?_ hx q rfl
  have hlt : k < vs.length := by
    apply Nat.lt_of_not_le; intro z; rw [List.getElem?_eq_none z] at hx; cases hx
  have h1 : ¬ ((k : Int) < 0) := by omega
  have h2 : (0 : Int) ≤ (k : Int) := by omega
  have h3 : (k : Int) < (vs.length : Int) := by omega
  simp [seqIndex?, h1, h2, h3]
/-- xs[::-1] -/
theorem wRev {Q : Value → Shared → Prop} {value st : PySem.Expr} {p : Pos} {l : Addr} {vs : List Value} {t : Tok} (F : Fm N g0 L h m) (hl : h.IsList l vs.toArray) (hz : vs.length ≤ 16777216)
    (q : ∀ c h', Fm N g0 L h' m → Kp N h h' → PL h' c vs.reverse → Q (.ref c) (St s h' tk)) :
    wpAny (model prog w) A (subscriptTail value (.Slice none none (some st) p) (.ref l) (.ref h.objs.size)) Q E (St s (h.push { cls := .type "slice", data := .fields #[.none, .none, .int (-1) t] }) tk) := by
  have k1 : Kp N h (h.push { cls := .type "slice", data := .fields #[.none, .none, .int (-1) t] }) := Kp.push _ _
  refine tail_any (s := St s (h.push { cls := .type "slice", data := .fields #[.none, .none, .int (-1) t] }) tk) (ops := [.ref l, .ref h.objs.size]) (Heap.IsList.typeIs (hl.push _)) slot_list_getitem.lookup
    (wpAny_getItem_list_slice (s := St s (h.push { cls := .type "slice", data := .fields #[.none, .none, .int (-1) t] }) tk) (hl.push _) (Heap.IsSliceOf.new ..) .none .none (.int _ _) (by decide) ?_ (by rw [List.size_toArray, sizeLine_eq]; exact hz)) rfl
  refine q _ _ (frK F (k1.trans (Kp.push _ _))) (k1.trans (Kp.push _ _)) ⟨0, ?_⟩
  rw [krv_pick]
  exact Heap.get?_push_size _ rfl
/-- -1 -/
theorem wNeg {Q : Value → Shared → Prop} {env : Env} {i : Int} {kd : Nat} {p q : Pos} (c : ∀ u tk', Q (.int (-i) u) (St s h tk')) : wpAny (model prog w) A (eval (.UnaryOp .USub (.Constant (.int i) kd p) q) env) Q E (St s h tk) :=
  wpAny_UnaryOp (wCI fun _ tk1 => PyProof.Rows.neg_int (s := St s h tk1) (c _ _))
end
section
variable {w : World} {A : Around} {E : Value → Shared → Prop} {s : Shared} {Q : Value → Shared → Prop} {mean : ExcName → Option Value} {mg mb : Str → Option Value} {N : Nat} {outer : List Env}
/-- three values in a tuple -/
def ST (h : Heap) (v : Value) (a b c : List (List Int)) : Prop := ∃ t v0 v1 v2, v = .ref t ∧ IsTup h t #[v0, v1, v2] ∧ LL h v0 a ∧ LL h v1 b ∧ LL h v2 c
theorem ST.kp {N : Nat} {g h : Heap} {v : Value} {a b c : List (List Int)} (x : ST g v a b c) (k : Kp N g h) : ST h v a b c := let ⟨t, v0, v1, v2, e, ht, l0, l1, l2⟩ := x; ⟨t, v0, v1, v2, e, isTup_kp ht k, l0.kp k, l1.kp k, l2.kp k⟩
set_option maxHeartbeats 8000000 in
theorem step {v : Value} {n : Int} {t : Tok} {sa sb sc : List (List Int)} {k : Nat} (g : G w mean mg mb N s.heap) (hd : A.depth + 2 < recursionLimit) (hu : A.units + 110 < cLine) (hh : A.handled = none)
    (hfr : A.frames = some outer) (fo : FOk N s.heap outer) (hS : ST s.heap v sa sb sc) (hn : 0 ≤ n) (hb : n < 2 ^ 60) (z0 : sa.length ≤ 1000) (z1 : sb.length ≤ 1000) (z2 : sc.length ≤ 1000)
    (hk1 : k < (begs n.toNat).length) (hk2 : k ≤ sc.length) (eqs : ∀ i, i < k → (begs n.toNat).getD i [] = sc.getD i []) (ord : ∀ j, k ≤ j → j < sc.length → ltL (sc.getD j []) ((begs n.toNat).getD k []) = true)
    (dE : ∀ i, i + 1 < (begs n.toNat).length → (begs n.toNat).getD (i + 1) [] ≠ (begs n.toNat).getD i []) (dA : ∀ i, i + 1 < sc.length → sc.getD (i + 1) [] ≠ sc.getD i [])
    (hQ : ∀ u h' tk, Kp N s.heap h' → ST h' u (sa ++ (begs n.toNat).drop k) (sb ++ (sc.drop k).reverse) (begs n.toNat) → Q u (St s h' tk)) :
    wpAny (model prg w) A (call (.ref 65) [v, .int n t]) Q E s := by
  have zb : (begs n.toNat).length ≤ 15 := begs_len 15 _ (by omega)
  generalize hE : begs n.toNat = es at *
  refine wpAny_call ?_
  refine call_plain_ret (binds := [("state", v), ("tail", .int n t)]) (by omega) (g.X 65 _ rfl) rfl g.T.nolimit (codeRec_of g.X (by rfl)) rfl (locs rfl) ?_
  intro h₁ F
  have F := Fm.enter F g.low
  show wpAny _ _ _ _ _ (St s h₁ _)
  obtain ⟨st, v0, v1, v2, rfl, hst, l0, l1, l2⟩ := hS
  refine wA (cN (wG F g (by kernel_rfl) (cwF rfl (evs_cons (wL F rfl (evs_nil ⟨(g.fm F).X 58 _ rfl, ?_⟩)))))) sw3
  refine beginnings (s := St s h₁ _) (g.fm F) (by show A.depth + 1 + 1 < _; omega) hh hn hb fun v2h h2 tk2 k2 lh => ?_
  show wpAny _ _ _ _ _ (St s h2 _)
  have F := frK F k2
  refine wS F fun h3 tk3 F3 k3 => ?_
  have lh3 := lh.kb F.ns k3
  refine wpAny_execs_cons (Assign_Tuple (cN (wG F3 g (by kernel_rfl) (cwF rfl (evs_cons (wL F3 rfl (evs_cons (Subscript_ (wL F3 rfl (wCI fun _ _ => wItemT (k := 2) (isTup_kp hst F3.kp) (by omega) rfl (evs_nil ⟨(g.fm F3).X 28 _ rfl, ?_⟩)))))))))) sw1 sw2)
  refine sld (s := St s h3 _) (outer := _) (k := k) (g.fm F3) (by show A.depth + 1 < _; omega) (by show A.units + 3 + 100 < cLine; omega) (by exact hh) (Around.frames_deeper hfr) (fo.cons F3 rfl) (es := es) (by rw [← hE]; exact lh3) (l2.kp F3.kp) (by omega) z2 hk1 hk2 eqs ord dE dA fun t4 w1 w2 h4 tk4 k4 ht4 lw1 lw2 => ?_
  show wpAny _ _ _ _ _ (St s h4 _)
  have F4 := frK F3 k4
  refine asg2 (by exact hh) F4 ht4 fun h5 F5 k5 => ?_
  refine wS F5 fun h6 _ F6 k6 => wS F6 fun h7 tk7 F7 k7 => ?_
  have lw1 := ((lw1.kp k5).kb F5.ns k6).kb F6.ns k7
  have lw2 := ((lw2.kp k5).kb F5.ns k6).kb F6.ns k7
  have lh7 := (((lh3.kp k4).kp k5).kb F5.ns k6).kb F6.ns k7
  obtain ⟨a0, vs0, rfl, hl0, hf0⟩ := l0
  obtain ⟨a1, vs1, rfl, hl1, hf1⟩ := l1
  obtain ⟨b1, us1, rfl, hm1, hg1⟩ := lw1
  obtain ⟨b2, us2, rfl, hm2, hg2⟩ := lw2
  have q0 := hf0.length
  have q1 := hf1.length
  have q2 := hg1.length
  have q3 := hg2.length
  have q4 : (es.drop k).length ≤ 1000 := by rw [List.length_drop]; omega
  have q5 : (sc.drop k).length ≤ 1000 := by rw [List.length_drop]; omega
  refine wpAny_execs_cons (wpAny_Return_some (wTuple (evs_cons (wpAny_BinOp (Subscript_ (wL F7 rfl (wCI fun _ _ => wItemT (k := 0) (isTup_kp hst F7.kp) (by omega) rfl (wL F7 rfl (wCat F7 (isList_kp hl0 F7.kp) hm1 (by omega) fun c8 h8 F8 k8 l8 => ?_)))))))))
  have hm2' := isList_kb hm2 F7.ns k8
  refine evs_cons (wpAny_BinOp (Subscript_ (wL F8 rfl (wCI fun _ _ => wItemT (k := 1) (isTup_kp hst F8.kp) (by omega) rfl (Subscript_ (wL F8 rfl (wpAny_Slice (evalPart_none_step (evalPart_none_step (evalPart_some_step (wNeg fun _ _ => ?_))))))))))) 
  refine wRev F8 hm2' (by omega) fun c9 h9 F9 k9 p9 => ?_
  refine wCat F9 (isList_kp hl1 F9.kp) p9.isList (by rw [List.length_reverse]; omega) fun c10 h10 F10 k10 l10 => ?_
  refine evs_cons (wL F10 rfl (evs_nil (wNewT F10 (by simp) fun t11 h11 F11 k11 ht11 _ => ?_)))
  have kA : Kp N s.heap h11 := F11.kp
  have k710 : KB N s.heap.objs.size h7 h10 := (k8.trans k9.kb).trans k10
  refine hQ _ h11 _ kA ⟨t11, _, _, _, rfl, ht11, ?_, ?_, ?_⟩
  · exact ⟨c8, _, rfl, isList_kp (isList_kb (isList_kp l8 k9) F9.ns k10) k11, (hf0.imp fun _ _ z => z.kp kA).append (hg1.imp fun _ _ z => (z.kb F7.ns k710).kp k11)⟩
  · exact ⟨c10, _, rfl, isList_kp l10 k11, (hf1.imp fun _ _ z => z.kp kA).append ((hg2.imp fun _ _ z => (z.kb F7.ns k710).kp k11).reverse)⟩
  · rw [← hE]; exact (lh7.kb F7.ns k710).kp k11
end
end Mine
end PartM9
section PartM10
open PySem PySem.W PyProof.Rows PySem.Calls
set_option Elab.async false
set_option maxRecDepth 100000
namespace Mine
/-- the records (iterators and the like) of h stand in h' -/
def KF (h h' : Heap) : Prop := ∀ b o vs, h.get? b = some o → o.data = .fields vs → h'.get? b = some o
theorem KF.refl (h : Heap) : KF h h := fun _ _ _ e _ => e
theorem KF.trans {f g h : Heap} (x : KF f g) (y : KF g h) : KF f h := fun b o vs e d => y b o vs (x b o vs e d) d
theorem KF.kp {N : Nat} {g h : Heap} (k : Kp N g h) : KF g h := fun b o vs e d => k.hard e fun q => by
  have := q.2; unfold dictAt at this; rw [d] at this; cases this
theorem KF.kb {N : Nat} {L : Addr} {m : Str → Option Value} {g h : Heap} (hn : g.Ns L m) (k : KB N L g h) : KF g h := fun b o vs e d => by
  refine k.hard (fun z => ?_) e fun q => by
    have := q.2; unfold dictAt at this; rw [d] at this; cases this
  obtain ⟨o', es, ep, ho', hd', _⟩ := hn
  rw [z, ho'] at e
  cases e
  rw [d] at hd'
  cases hd'
theorem KF.seq {h h' : Heap} {D : Addr} {vs : List Value} (p : PL h D vs) (hs : Heap.SameBut D h h') : KF h h' := fun b o ws e d => by
  refine (hs.2 b fun z => ?_).trans e
  obtain ⟨n, e1⟩ := p
  rw [z, e1] at e
  cases e
  cases d
theorem frE {N : Nat} {g h h' : Heap} {L b : Addr} {m : Str → Option Value} (F : Fm N g L h m) (hs : Heap.ExtBut b h h') (hL : b ≠ L) (hg : g.get? b = none) : Fm N g L h' m :=
  ⟨⟨F.ns.extBut hs (Ne.symm hL), fun c o e => hs c o (fun z => by rw [z] at e; have := (hid_some.mp e).1; rw [hg] at this; cases this) (F.fr.keep c o e), F.fr.above⟩,
   fun c o n e => by
     obtain ⟨sl, e1, q⟩ := F.kb c o n e
     exact ⟨sl, hs c _ (fun z => by rw [z, hg] at e; cases e) e1, q⟩, F.new, F.lo⟩
/-- the sequences of h stand in h' -/
def KS (h h' : Heap) : Prop := ∀ b o vs n, h.get? b = some o → o.data = .seq vs n → h'.get? b = some o
theorem KS.refl (h : Heap) : KS h h := fun _ _ _ _ e _ => e
theorem KS.trans {f g h : Heap} (x : KS f g) (y : KS g h) : KS f h := fun b o vs n e d => y b o vs n (x b o vs n e d) d
theorem KS.kp {N : Nat} {g h : Heap} (k : Kp N g h) : KS g h := fun b o vs n e d => k.hard e (seq_hard d)
theorem KS.kb {N : Nat} {L : Addr} {m : Str → Option Value} {g h : Heap} (hn : g.Ns L m) (k : KB N L g h) : KS g h := fun b o vs n e d => by
  refine k.hard (fun z => ?_) e (seq_hard d)
  obtain ⟨o', es, ep, ho', hd', _⟩ := hn
  rw [z, ho'] at e
  cases e
  rw [d] at hd'
  cases hd'
theorem KS.ext {h h' : Heap} {b : Addr} {o : Obj} {vs : Array Value} (e : h.get? b = some o) (d : o.data = .fields vs) (hs : Heap.ExtBut b h h') : KS h h' := fun c o' ws n e' d' => hs c o' (fun z => by rw [z, e] at e'; cases e'; rw [d] at d'; cases d') e'
theorem IL.ks {g h : Heap} {v : Value} {ns : List Int} (x : IL g v ns) (k : KS g h) : IL h v ns := let ⟨a, vs, e, ⟨o, ho, hc, n, hd⟩, hi⟩ := x; ⟨a, vs, e, ⟨o, k _ _ _ _ ho hd, hc, n, hd⟩, hi⟩
theorem PL.ks {g h : Heap} {a : Addr} {vs : List Value} (x : PL g a vs) (k : KS g h) : PL h a vs := let ⟨n, e⟩ := x; ⟨n, k _ _ _ _ e rfl⟩
section
variable {prog : Program} {w : World} {A : Around} {E : Value → Shared → Prop} {s : Shared} {h : Heap} {tk : Nat} {name : Str} {scope : Scope} {N : Nat} {g0 : Heap} {L a : Addr} {cd : Value} {m : Str → Option Value}
theorem new_none {g0 h : Heap} (F : Fm N g0 L h m) {b : Addr} (e : h.get? b = none) : g0.get? b = none := by
  cases z : g0.get? b with
  | none => rfl
  | some o => obtain ⟨sl, e1, _⟩ := F.kp _ _ z; rw [e1] at e; cases e
theorem ne_L {g0 h : Heap} (F : Fm N g0 L h m) {b : Addr} {o : Obj} {vs : Array Value} (e : h.get? b = some o) (d : o.data = .fields vs) : b ≠ L := fun z => by
  obtain ⟨o', es, ep, ho', hd', _⟩ := F.ns
  rw [z, ho'] at e
  cases e
  rw [d] at hd'
  cases hd'
/-- for x in <a range>: body -/
theorem forR {Q : Flow → Shared → Prop} {x : Str} {px pos : Pos} {iter : PySem.Expr} {body : List Stmt} {lo : Int} {n : Nat} (I : Nat → Heap → (Str → Option Value) → Prop) (F : Fm N g0 L h m) (hh : A.handled = none)
    (it : ∀ K : Value → Shared → Prop, (∀ r h' tk' t u v, Fm N g0 L h' m → Kp N h h' → IsRange h' r lo (lo + n) 1 t u v → K (.ref r) (St s h' tk')) → wpAny (model prog w) A (eval iter (envOf name scope L a cd)) K E (St s h tk))
    (b1 : -(2 ^ 61) ≤ lo) (b2 : lo < 2 ^ 61) (b3 : n < 2 ^ 61)
    (st : ∀ t h h' m m', I t h m → KS h h' → (∀ y, y ≠ x → m' y = m y) → I t h' m')
    (i0 : I 0 h m)
    (turn : ∀ t h m tk u (K : Flow → Shared → Prop) (E' : Value → Shared → Prop), t < n → Fm N g0 L h m → I t h m → m x = some (.int (lo + t) u) →
      (∀ h' m' tk', Fm N g0 L h' m' → KF h h' → I (t + 1) h' m' → K .next (St s h' tk')) → wpAny (model prog w) A (execs body (envOf name scope L a cd)) K E' (St s h tk))
    (q : ∀ h' m' tk', Fm N g0 L h' m' → KF h h' → I n h' m' → Q .next (St s h' tk'))
    (hs : ∀ v, foldedSetIterable iter (envOf name scope L a cd) v = pure v) (hk : scope.kind = .function := by rfl) (hl : (envOf name scope L a cd).kindOf x = some .local := by rfl) :
    wpAny (model prog w) A (exec (.For (.Name x px) iter body [] pos) (envOf name scope L a cd)) Q E (St s h tk) := by
  refine wpAny_For (it _ fun r h1 tk1 t u v F1 k1 hr => ?_) hs
  refine wpAny_pyIter_range (s := St s h1 tk1) hr (small_one (by omega) (by omega) (by omega) (by omega)) ?_
  have hsz : Builtin.Range.rangeSize lo (lo + n) 1 = (n : Int) := by rw [rangeSize_one]; split <;> omega
  rw [hsz]
  show codeAny _ _ (.forLoop _ (.ref h1.objs.size) _ _ _) _ (St s (h1.push _) tk1)
  have k2 : Kp N h1 (h1.push { cls := .type "range_iterator", data := .fields #[rawInt lo, rawInt (n : Int), rawInt 1] }) := Kp.push _ _
  have F2 := frK F1 k2
  have hit : IsRangeIter (h1.push { cls := .type "range_iterator", data := .fields #[rawInt lo, rawInt (n : Int), rawInt 1] }) h1.objs.size lo n 1 := Heap.get?_push_size _ rfl
  have git : g0.get? h1.objs.size = none := new_none F1 (Heap.get?_none_of_le (Nat.le_refl _))
  have nit : h.get? h1.objs.size = none := by
    cases z : h.get? h1.objs.size with
    | none => rfl
    | some o => obtain ⟨sl, e1, _⟩ := k1 _ _ z; exact absurd (Heap.lt_size e1) (Nat.lt_irrefl _)
  generalize h1.push _ = h2 at hit F2 k2 ⊢
  generalize h1.objs.size = iv at hit git nit ⊢
  have kf2 : KF h h2 := (KF.kp k1).trans (KF.kp k2)
  have i2 : I 0 h2 m := st 0 h h2 m m i0 ((KS.kp k1).trans (KS.kp k2)) fun _ _ => rfl
  refine codeAny_forLoop (fun j s' => ∃ h' tk' m' t, s' = St s h' tk' ∧ Fm N g0 L h' m' ∧ KF h h' ∧ I t h' m' ∧ IsRangeIter h' iv (lo + (t : Nat)) ((n : Int) - t) 1 ∧ t + j = n) ?_ n ⟨h2, tk1, m, 0, rfl, F2, kf2, i2, by simpa using hit, by omega⟩
  rintro j s' ⟨h', tk', m', t, rfl, F', kf', i', hi', ht⟩
  have ivL : iv ≠ L := ne_L F' hi' rfl
  by_cases hlt : t < n
  · refine wpAny_pyNext_range_item (s := St s h' tk') hi' (by omega) fun h3 hit3 sb3 => ?_
    show wpAny _ _ (assign (.Name x px) _ _) _ _ (St s h3 _)
    have F3 := frU F' sb3 ivL git
    have ks3 : KS h' h3 := KS.ext hi' rfl sb3.extBut
    have kf3 : KF h h3 := fun b o vs e d => (sb3.2 b fun z => by rw [z, nit] at e; cases e).trans (kf' b o vs e d)
    refine PyProof.Rows.assign_Name (wS F3 (fun h4 tk4 F4 k4 => ?_) hk hl)
    have i4 := st t h' h4 m' (fun y => if y = x then some (.int (lo + (t : Nat)) (St s h' tk').toks) else m' y) i' (ks3.trans (KS.kb F3.ns k4)) fun y hy => if_neg hy
    refine turn t h4 _ tk4 _ _ _ hlt F4 i4 (if_pos rfl) fun h5 m5 tk5 F5 kf5 i5 => ?_
    refine ⟨j - 1, by omega, h5, tk5, m5, t + 1, rfl, F5, (kf3.trans (KF.kb F3.ns k4)).trans kf5, i5, ?_, by omega⟩
    have e5 : h5.get? iv = _ := kf5 _ _ _ ((KF.kb F3.ns k4) _ _ _ hit3 rfl) rfl
    have a1 : lo + ((t + 1 : Nat) : Int) = lo + (t : Nat) + 1 := by omega
    have a2 : (n : Int) - ((t + 1 : Nat) : Int) = (n : Int) - t - 1 := by omega
    rw [a1, a2]
    exact e5
  · have htn : t = n := by omega
    subst htn
    refine wpAny_pyNext_range_end (s := St s h' tk') hh hi' (by omega) fun h3 eb3 => ?_
    show wpAny _ _ (execs [] _) _ _ (St s h3 _)
    refine wpAny_execs_nil (q h3 m' _ (frE F' eb3 ivL git) (fun b o vs e d => eb3 b o (fun z => by rw [z, nit] at e; cases e) (kf' b o vs e d)) (st t h' h3 m' m' i' (KS.ext hi' rfl eb3) fun _ _ => rfl))
end
end Mine
end PartM10
section PartMX
open PySem PySem.W PyProof.Rows PySem.Calls PySem.W.X
set_option Elab.async false
set_option maxRecDepth 100000
namespace Mine
/-- what a code runs, in the library's quick twins -/
noncomputable abbrev XD : Code → Sem PySem.Fin := PySem.W.XFast.xw11892475500146522536 PySem.W.XFast.tableX
theorem den_eq : denote table = XD := by
  rw [PySem.W.XFast.tableX_eq, PySem.W.XFast.xe11892475500146522536]
/-- what a run has made and changed so far: new objects from p + 76 on, the table at 37 -/
structure Rp (p : Nat) (h0 h : Heap) (T : List (Nat × Obj)) (m : Nat) (tb : Array Value) : Prop where
  size : h.objs.size = p + m
  get : ∀ i o, T.lookup i = some o → i < m ∧ h.get? (p + i) = some o
  keep : ∀ b o, b ≠ 37 → h0.get? b = some o → h.get? b = some o
  tab : h.get? 37 = some (tableObj tb)
  bnd : ∀ i o, T.lookup i = some o → 76 ≤ i
  old : h0.objs.size ≤ p + 76
  le : 76 ≤ m
section
variable {α : Type} {w : World} {A : Around} {c : Code} {Q : α → Shared → Prop} {E : Value → Shared → Prop} {s : Shared} {h h0 : Heap} {tk p m : Nat} {T : List (Nat × Obj)} {tb : Array Value}
theorem Rp.start (hz : h0.objs.size = p + 76) (ht : h0.get? 37 = some (tableObj tb)) : Rp p h0 h0 [] 76 tb := ⟨hz, fun _ _ e => (nomatch e), fun _ _ _ e => e, ht, fun _ _ e => (nomatch e), Nat.le_of_eq hz, Nat.le_refl _⟩
theorem Rp.alloc (D : Rp p h0 h T m tb) {o : Obj} (hf : o.isFreed = false) : Rp p h0 (h.push o) ((m, o) :: T) (m + 1) tb := by
  refine ⟨by rw [Heap.size_push, D.size]; rfl, fun i o' e => ?_, fun b o' n e => Heap.get?_push_of_some _ (D.keep b o' n e), Heap.get?_push_of_some _ D.tab, fun i o' e => ?_, D.old, Nat.le_succ_of_le D.le⟩
  · rw [List.lookup_cons] at e
    by_cases hi : i = m
    · subst hi
      simp at e
      subst e
      exact ⟨Nat.lt_succ_self _, by rw [← D.size]; exact Heap.get?_push_size _ hf⟩
    · have : (i == m) = false := by simp [hi]
      rw [this] at e
      have z := D.get i o' e
      exact ⟨Nat.lt_succ_of_lt z.1, Heap.get?_push_of_some _ z.2⟩
  · rw [List.lookup_cons] at e
    by_cases hi : i = m
    · subst hi; exact D.le
    · have : (i == m) = false := by simp [hi]
      rw [this] at e
      exact D.bnd i o' e
theorem Rp.update (D : Rp p h0 h T m tb) {i : Nat} {o : Obj} {f : Obj → Obj} (e : T.lookup i = some o) (hf : (f o).isFreed = false) : Rp p h0 (h.update (p + i) f) ((i, f o) :: T) m tb := by
  have z := D.get i o e
  have hs : Heap.SameBut (p + i) h (h.update (p + i) f) := Heap.SameBut.update ..
  have ge : (h.update (p + i) f).get? (p + i) = some (f o) := Heap.get?_update_self _ z.2 hf
  have hi := D.bnd i o e
  refine ⟨by rw [hs.1, D.size], fun j o' e' => ?_, fun b o' n e' => ?_, ?_, fun j o' e' => ?_, D.old, D.le⟩
  · rw [List.lookup_cons] at e'
    by_cases hj : j = i
    · subst hj
      simp at e'
      subst e'
      exact ⟨z.1, ge⟩
    · have : (j == i) = false := by simp [hj]
      rw [this] at e'
      have y := D.get j o' e'
      exact ⟨y.1, (hs.2 _ fun z => by have z : p + j = p + i := z; omega).trans y.2⟩
  · exact (hs.2 b (Nat.ne_of_lt (Nat.lt_of_lt_of_le (Heap.lt_size e') (Nat.le_trans D.old (Nat.add_le_add_left hi p))))).trans (D.keep b o' n e')
  · exact (hs.2 37 fun z => by have z : 37 = p + i := z; omega).trans D.tab
  · rw [List.lookup_cons] at e'
    by_cases hj : j = i
    · subst hj; exact hi
    · have : (j == i) = false := by simp [hj]
      rw [this] at e'
      exact D.bnd j o' e'
theorem Rp.table (D : Rp p h0 h T m tb) {f : Obj → Obj} {tb' : Array Value} (e : f (tableObj tb) = tableObj tb') : Rp p h0 (h.update 37 f) T m tb' := by
  have hs : Heap.SameBut 37 h (h.update 37 f) := Heap.SameBut.update ..
  have ge : (h.update 37 f).get? 37 = some (tableObj tb') := by
    rw [← e]
    exact Heap.get?_update_self _ D.tab (by rw [e]; rfl)
  refine ⟨by rw [hs.1, D.size], fun j o' e' => ?_, fun b o' n e' => (hs.2 b n).trans (D.keep b o' n e'), ge, D.bnd, D.old, D.le⟩
  have y := D.get j o' e'
  have := D.bnd j o' e'
  exact ⟨y.1, (hs.2 _ fun z => by have z : p + j = 37 := z; omega).trans y.2⟩
end
/-- a run under way: what has been made (T, from p + 76 on), how far the heap goes (m), the table at 37, the tokens, the code and its tree -/
def Go {α : Type} (t : Sem α) (w : World) (s : Shared) (p : Nat) (h0 : Heap) (T : List (Nat × Obj)) (m : Nat) (tb : Array Value) (tk : Nat) (A : Around) (c : Code) (Q : α → Shared → Prop) (E : Value → Shared → Prop) : Prop :=
  ∀ h, Rp p h0 h T m tb → wpOwn (model prg w) A c t Q E (St s h tk)
section
variable {α : Type} {w : World} {A : Around} {c : Code} {Q : α → Shared → Prop} {E : Value → Shared → Prop} {s : Shared} {h0 : Heap} {tk p m : Nat} {T : List (Nat × Obj)} {tb : Array Value}
theorem m_skim {t : Sem α} (x : Go (skim ⟨prg, w.params⟩ 400 t) w s p h0 T m tb tk A c Q E) : Go t w s p h0 T m tb tk A c Q E := fun h D => y_skim _ _ _ _ _ _ _ _ _ 400 (x h D)
theorem m_fresh {k : Tok → Sem α} {tk' : Nat} (ht : tk + 1 = tk') (x : Go (k tk) w s p h0 T m tb tk' A c Q E) : Go (.fresh k) w s p h0 T m tb tk A c Q E := by subst ht; exact fun h D Γ q hc hΓ => x h D Γ q hc hΓ
theorem m_load {a : Addr} {i : Nat} {q : Option Value} {k : Obj → Sem α} {o : Obj} (ha : a = p + i) (e : T.lookup i = some o) (x : Go (k o) w s p h0 T m tb tk A c Q E) : Go (.load a q k) w s p h0 T m tb tk A c Q E :=
  fun h D => ha ▸ y_load _ _ _ _ _ _ _ _ _ _ _ _ _ _ _ _ (D.get _ _ e).2 (x h D)
theorem m_loadK {a : Addr} {q : Option Value} {k : Obj → Sem α} {o : Obj} {K : Frag} (X : K.In h0) (e : List.lookup a K = some o) (hb : Nat.beq a 37 = false) (x : Go (k o) w s p h0 T m tb tk A c Q E) : Go (.load a q k) w s p h0 T m tb tk A c Q E :=
  fun h D => y_load _ _ _ _ _ _ _ _ _ _ _ _ _ _ _ _ (D.keep _ _ (fun z => by rw [z] at hb; cases hb) (X _ _ e)) (x h D)
theorem m_loadO {a : Addr} {q : Option Value} {k : Obj → Sem α} {o : Obj} (e : h0.get? a = some o) (hb : a ≠ 37) (x : Go (k o) w s p h0 T m tb tk A c Q E) : Go (.load a q k) w s p h0 T m tb tk A c Q E :=
  fun h D => y_load _ _ _ _ _ _ _ _ _ _ _ _ _ _ _ _ (D.keep _ _ hb e) (x h D)
theorem m_load37 {a : Addr} {q : Option Value} {k : Obj → Sem α} (ha : a = 37) (x : Go (k (tableObj tb)) w s p h0 T m tb tk A c Q E) : Go (.load a q k) w s p h0 T m tb tk A c Q E :=
  fun h D => ha ▸ y_load _ _ _ _ _ _ _ _ _ _ _ _ _ _ _ _ D.tab (x h D)
theorem m_alloc {o : Obj} {k : Addr → Sem α} {m' : Nat} (hm : m + 1 = m') (hf : o.isFreed = false) (x : Go (k (p + m)) w s p h0 ((m, o) :: T) m' tb tk A c Q E) : Go (.alloc o k) w s p h0 T m tb tk A c Q E := fun h D => by
  subst hm
  refine wpOwn_bind (m := alloc o) (f := k) (wpOwn_of_wpAny (wpAny_alloc ?_))
  have := x _ (D.alloc hf)
  rw [← D.size] at this
  exact this
theorem m_update {a : Addr} {i : Nat} {q : Option Value} {f : Obj → Obj} {k : Unit → Sem α} {o : Obj} (ha : a = p + i) (e : T.lookup i = some o) (hf : (f o).isFreed = false) (x : Go (k ()) w s p h0 ((i, f o) :: T) m tb tk A c Q E) : Go (.update a q f k) w s p h0 T m tb tk A c Q E :=
  fun h D => ha ▸ wpOwn_bind (m := updatePart (p + i) q f) (f := k) (wpOwn_of_wpAny (wpAny_updatePart (D.get _ _ e).2 (x _ (D.update e hf))))
theorem m_update37 {a : Addr} {q : Option Value} {f : Obj → Obj} {k : Unit → Sem α} {tb' : Array Value} (ha : a = 37) (e : f (tableObj tb) = tableObj tb') (x : Go (k ()) w s p h0 T m tb' tk A c Q E) : Go (.update a q f k) w s p h0 T m tb tk A c Q E :=
  fun h D => ha ▸ wpOwn_bind (m := updatePart 37 q f) (f := k) (wpOwn_of_wpAny (wpAny_updatePart D.tab (x _ (D.table e))))
theorem m_call {c' : Code} {hd : Option Value} {g : Bool} {l : List Value} {k : Result → Sem α} (hnb : hd ≠ some byPass) (x : Go (XD c') w s p h0 T m tb tk ((A.under c).mark hd) c' (postC prg w ((A.under c).mark hd) (postR prg w A c Q E k)) (postE (postR prg w A c Q E k))) : Go (.call c' hd g l k) w s p h0 T m tb tk A c Q E :=
  fun h D => y_call _ _ _ _ _ _ _ _ _ _ _ _ _ hnb (y_code _ _ _ _ _ _ (by rw [den_eq]; exact x h D))
theorem m_code {c' : Code} {A' : Around} {R : Result → Shared → Prop} {s : Shared} (x : wpOwn (model prg w) A' c' (XD c') (postC prg w A' R) (postE R) s) : codeAny (model prg w) A' c' R s := y_code _ _ _ _ _ _ (by rw [den_eq]; exact x)
theorem m_done {A' : Around} {c' : Code} {f : Flow} {k : Result → Sem α} (x : Go (k (.ok f)) w s p h0 T m tb tk A c Q E) : Go (Sem.pure (.done f)) w s p h0 T m tb tk A' c' (postC prg w A' (postR prg w A c Q E k)) (postE (postR prg w A c Q E k)) := fun h D => y_pure _ _ _ _ _ _ _ _ _ (x h D)
theorem m_again {A' : Around} {c0 c' : Code} {R : Result → Shared → Prop} (hq : c'.quiet = true) (x : Go (XD c') w s p h0 T m tb tk A' c' (postC prg w A' R) (postE R)) : Go (Sem.pure (.again c')) w s p h0 T m tb tk A' c0 (postC prg w A' R) (postE R) := fun h D => y_pure _ _ _ _ _ _ _ _ _ ⟨hq, m_code (x h D)⟩
theorem m_stack {k : List (Code × Pos) → Sem α} (x : ∀ (q : Pos) (below : List (Code × Pos)), Lies (A.under c) ((c, q) :: below) → Go (k ((c, q) :: below)) w s p h0 T m tb tk A c Q E) : Go (.stack k) w s p h0 T m tb tk A c Q E := fun h D => y_stack _ _ _ _ _ _ _ _ _ fun q b l => x q b l h D
theorem m_handled {k : Option Value → Sem α} (x : Go (k A.handled) w s p h0 T m tb tk A c Q E) : Go (.handled false k) w s p h0 T m tb tk A c Q E := fun h D => y_handled _ _ _ _ _ _ _ _ _ (x h D)
/-- what the boot's names are, looked up in the object ob -/
def LBt (ob : Obj) : Prop := ∀ (name : Str) (v : Value), name ≠ "__name__" → bootBuiltins name = some v → PySem.W.XFast.xw12049290149238594875 name ob = Sem.pure (some v)
theorem m_load0 {a : Addr} {q : Option Value} {k : Obj → Sem α} {ob : Obj} (hb : h0.get? 0 = some ob) (ha : a = 0) (x : Go (k ob) w s p h0 T m tb tk A c Q E) : Go (.load a q k) w s p h0 T m tb tk A c Q E :=
  fun h D => ha ▸ y_load _ _ _ _ _ _ _ _ _ _ _ _ _ _ _ _ (D.keep _ _ (by decide) hb) (x h D)
theorem pb {β γ : Type} (a : β) (f : β → Sem γ) : (Sem.pure a).bind f = f a := rfl
theorem lb1 {ob : Obj} (L : LBt ob) : PySem.W.XFast.xw12049290149238594875 { cps := { toList := [95,95,98,117,105,108,100,95,99,108,97,115,115,95,95] } } ob = Sem.pure (some (.builtin "__build_class__")) := L _ _ (by decide) (by kernel_rfl)
theorem lb2 {ob : Obj} (L : LBt ob) : PySem.W.XFast.xw12049290149238594875 (Str.ofString "object") ob = Sem.pure (some (.type "object")) := L _ _ (by decide) (by kernel_rfl)
/-- the end of a part of a tree -/
def QB {β : Type} (w : World) (A : Around) (c : Code) (f : β → Sem α) (Q : α → Shared → Prop) (E : Value → Shared → Prop) : β → Shared → Prop := fun a s' => wpOwn (model prg w) A c (f a) Q E s'
theorem m_bind {β : Type} {t : Sem β} {f : β → Sem α} (x : Go t w s p h0 T m tb tk A c (QB w A c f Q E) E) : Go (t.bind f) w s p h0 T m tb tk A c Q E := fun h D => wpOwn_bind (x h D)
theorem m_bind' {β : Type} {t : Sem β} {f : β → Sem α} (x : Go t w s p h0 T m tb tk A c (QB w A c f Q E) E) : Go (t >>= f) w s p h0 T m tb tk A c Q E := fun h D => wpOwn_bind (x h D)
theorem m_pureB {β : Type} {a : β} {f : β → Sem α} {E' : Value → Shared → Prop} (x : Go (f a) w s p h0 T m tb tk A c Q E) : Go (Sem.pure a) w s p h0 T m tb tk A c (QB w A c f Q E) E' := fun h D => y_pure _ _ _ _ _ _ _ _ _ (x h D)
theorem m_look {name : Str} {ob : Obj} {v : Option Value} {Q : Option Value → Shared → Prop} (e : PySem.W.XFast.xw12049290149238594875 name ob = Sem.pure v) (x : Go (Sem.pure v) w s p h0 T m tb tk A c Q E) : Go (PySem.W.XFast.xw12049290149238594875 name ob) w s p h0 T m tb tk A c Q E := by rw [e]; exact x
theorem m_cond {b : Bool} {t1 t2 : Sem α} (e : b = false) (x : Go t2 w s p h0 T m tb tk A c Q E) : Go (cond b t1 t2) w s p h0 T m tb tk A c Q E := by rw [e]; exact x
theorem m_recT {b : Bool} {t1 t2 : Sem α} (e : b = true) (x : Go t1 w s p h0 T m tb tk A c Q E) : Go (@Bool.rec (fun _ => Sem α) t2 t1 b) w s p h0 T m tb tk A c Q E := by subst e; exact x
theorem m_recF {b : Bool} {t1 t2 : Sem α} (e : b = false) (x : Go t2 w s p h0 T m tb tk A c Q E) : Go (@Bool.rec (fun _ => Sem α) t2 t1 b) w s p h0 T m tb tk A c Q E := by subst e; exact x
theorem m_forIn {β : Type} {as as' : List Value} {b : β} {f : Value → β → Sem (ForInStep β)} {Q : β → Shared → Prop} (e : as = as') (x : Go (forIn as' b f) w s p h0 T m tb tk A c Q E) : Go (forIn as b f) w s p h0 T m tb tk A c Q E := by subst e; exact x
/-- the ends of a part that is watched -/
def EO (w : World) (A : Around) (c : Code) (k : Value → Sem Unit) (E : Value → Shared → Prop) : Value → Shared → Prop := fun e s' => wpOwn (model prg w) A c (k e) (fun _ s'' => E e s'') E s'
def EC (w : World) (A : Around) (c : Code) (k : Value → Sem α) (Q : α → Shared → Prop) (E : Value → Shared → Prop) : Value → Shared → Prop := fun e s' => wpOwn (model prg w) A c (k e) Q E s'
def QA {β : Type} (Q : Except Value β → Shared → Prop) : β → Shared → Prop := fun a s' => Q (.ok a) s'
def EA {β : Type} (Q : Except Value β → Shared → Prop) : Value → Shared → Prop := fun e s' => Q (.error e) s'
/-- a way that raises -/
def GE (e : Value) (w : World) (s : Shared) (p : Nat) (h0 : Heap) (T : List (Nat × Obj)) (m : Nat) (tb : Array Value) (tk : Nat) (E : Value → Shared → Prop) : Prop := ∀ h, Rp p h0 h T m tb → E e (St s h tk)
def QE (E : Value → Shared → Prop) (e : Value) : Unit → Shared → Prop := fun _ s' => E e s'
theorem m_raise0 {e : Value} (x : GE e w s p h0 T m tb tk E) : Go (Sem.raise e) w s p h0 T m tb tk A c Q E := fun h D => y_raise _ _ _ _ _ _ _ _ _ (x h D)
theorem ge_postR {e : Value} {k : Result → Sem α} (x : Go (k (.error e)) w s p h0 T m tb tk A c Q E) : GE e w s p h0 T m tb tk (postE (postR prg w A c Q E k)) := fun h D => x h D
theorem ge_EC {e : Value} {k : Value → Sem α} (x : Go (k e) w s p h0 T m tb tk A c Q E) : GE e w s p h0 T m tb tk (EC w A c k Q E) := fun h D => x h D
theorem ge_EA {β : Type} {e : Value} {f : Except Value β → Sem α} (x : Go (f (.error e)) w s p h0 T m tb tk A c Q E) : GE e w s p h0 T m tb tk (EA (QB w A c f Q E)) := fun h D => x h D
theorem ge_EO {e : Value} {k : Value → Sem Unit} (x : Go (k e) w s p h0 T m tb tk A c (QE E e) E) : GE e w s p h0 T m tb tk (EO w A c k E) := fun h D => x h D
theorem m_pureE {e : Value} {E' : Value → Shared → Prop} (x : GE e w s p h0 T m tb tk E) : Go (Sem.pure ()) w s p h0 T m tb tk A c (QE E e) E' := fun h D => y_pure _ _ _ _ _ _ _ _ _ (x h D)
theorem m_keep {vs : List Value} {t : Sem α} (x : Go t w s p h0 T m tb tk A c Q E) : Go (t.keep vs) w s p h0 T m tb tk A c Q E := fun h D Γ q hc hΓ => by rw [Sem.wp_keep]; exact x h D Γ q hc hΓ
theorem m_holding {vs : List Value} {t : Sem α} (x : Go t w s p h0 T m tb tk A c Q E) : Go (holding vs t) w s p h0 T m tb tk A c Q E := fun h D Γ q hc hΓ => by rw [Sem.wp_holding]; exact x h D Γ q hc hΓ
theorem m_onRaise {k : Value → Sem Unit} {t : Sem α} (x : Go t w s p h0 T m tb tk A c Q (EO w A c k E)) : Go (t.onRaise k) w s p h0 T m tb tk A c Q E := fun h D Γ q hc hΓ => by
  rw [Sem.wp_onRaise]
  exact Sem.wp_mono _ Γ t (fun _ _ _ h' => h') (fun e p' s' h' => h' Γ p' hc hΓ) q _ (x h D Γ q hc hΓ)
theorem m_tryCatch {k : Value → Sem α} {t : Sem α} (x : Go t w s p h0 T m tb tk A c Q (EC w A c k Q E)) : Go (t.tryCatch k) w s p h0 T m tb tk A c Q E := fun h D Γ q hc hΓ => by
  show Sem.wp _ Γ (MonadExcept.tryCatch t k) _ _ _ _
  rw [Sem.wp_tryCatch']
  exact Sem.wp_mono _ Γ t (fun _ _ _ h' => h') (fun e p' s' h' => h' Γ p' hc hΓ) q _ (x h D Γ q hc hΓ)
theorem m_tryCatch' {k : Value → Sem α} {t : Sem α} (x : Go t w s p h0 T m tb tk A c Q (EC w A c k Q E)) : Go (MonadExcept.tryCatch t k) w s p h0 T m tb tk A c Q E := m_tryCatch x
theorem m_attempt {β : Type} {Q : Except Value β → Shared → Prop} {t : Sem β} (x : Go t w s p h0 T m tb tk A c (QA Q) (EA Q)) : Go t.attempt w s p h0 T m tb tk A c Q E := fun h D Γ q hc hΓ => by
  rw [Sem.wp_attempt]
  exact x h D Γ q hc hΓ
theorem m_pureA {β : Type} {a : β} {f : Except Value β → Sem α} {E' : Value → Shared → Prop} (x : Go (f (.ok a)) w s p h0 T m tb tk A c Q E) : Go (Sem.pure a) w s p h0 T m tb tk A c (QA (QB w A c f Q E)) E' := fun h D => y_pure _ _ _ _ _ _ _ _ _ (x h D)
end
theorem em0 (name : Str) : PySem.W.XFast.xw12049290149238594875 name { cls := Value.none, data := Data.dict #[] } = Sem.pure none := by
  rw [← PySem.W.XFast.xe12049290149238594875]; rfl
theorem near_ff {A : Around} {st : List (Code × Pos)} (l : Lies A st) (hd : A.depth < recursionLimit) (own : Nat) : nearF st own recursionLimit = false := Lies.near' l hd own
theorem over_ff {A : Around} {st : List (Code × Pos)} (l : Lies A st) (hd : A.depth < recursionLimit) (own : Nat) : overF st own recursionLimit = false := Lies.over l hd own
theorem warm_ff {A : Around} {st : List (Code × Pos)} (l : Lies A st) (hd : A.depth < recursionLimit) (own : Nat) : warmF st own recursionLimit = false := Lies.warm l hd own
theorem room_ff {A : Around} {st : List (Code × Pos)} (l : Lies A st) (hd : A.units < cLine) : roomF st = false := Lies.room l hd
theorem lbt_of {h : Heap} {mb : Str → Option Value} (hn : h.Ns builtinsNs mb) (hb : ∀ x : Str, x ≠ "__name__" → mb x = bootBuiltins x) : ∃ ob, h.get? 0 = some ob ∧ LBt ob := by
  obtain ⟨o, es, ep, ho, hd, hk, hf⟩ := hn
  refine ⟨o, ho, fun name v hne e => ?_⟩
  rw [← PySem.W.XFast.xe12049290149238594875, nsLook_eq]
  have z := hf name
  rw [hb name hne, e] at z
  simp only [nsFind, findBy] at z
  simp only [nsLookByArray, hd]
  cases q : es.find? (·.key.isStr name) with
  | none => rw [q] at z; cases z
  | some x => rw [q] at z; cases z; rfl
theorem zs_0 : Str.toString { cps := { toList := [95,95,103,101,116,97,116,116,114,105,98,117,116,101,95,95] } } = "__getattribute__" := by kernel_rfl
theorem zs_1 : Str.toString { cps := { toList := [95,95,99,97,108,108,95,95] } } = "__call__" := by kernel_rfl
theorem zs_2 : Str.toString { cps := { toList := [95,95,110,101,119,95,95] } } = "__new__" := by kernel_rfl
theorem zs_3 : Str.toString { cps := { toList := [95,95,105,110,105,116,95,95] } } = "__init__" := by kernel_rfl
theorem zs_4 : Str.toString { cps := { toList := [95,95,112,114,101,112,97,114,101,95,95] } } = "__prepare__" := by kernel_rfl
theorem zs_5 : Str.toString { cps := { toList := [95,95,115,101,116,97,116,116,114,95,95] } } = "__setattr__" := by kernel_rfl
theorem zs_6 : Str.toString { cps := { toList := [95,95,115,101,116,95,110,97,109,101,95,95] } } = "__set_name__" := by kernel_rfl
theorem zs_7 : Str.toString { cps := { toList := [95,95,105,110,105,116,95,115,117,98,99,108,97,115,115,95,95] } } = "__init_subclass__" := by kernel_rfl
theorem zs_8 : Str.toString { cps := { toList := [95,95,103,101,116,95,95] } } = "__get__" := by kernel_rfl
theorem zs_9 : Str.toString { cps := { toList := [95,95,115,101,116,95,95] } } = "__set__" := by kernel_rfl
theorem zs_10 : Str.toString { cps := { toList := [95,95,104,97,115,104,95,95] } } = "__hash__" := by kernel_rfl
theorem zs_11 : Str.toString { cps := { toList := [95,95,105,116,101,114,95,95] } } = "__iter__" := by kernel_rfl
theorem zs_12 : Str.toString { cps := { toList := [95,95,103,101,116,105,116,101,109,95,95] } } = "__getitem__" := by kernel_rfl
theorem zs_13 : Str.toString { cps := { toList := [95,95,115,101,116,105,116,101,109,95,95] } } = "__setitem__" := by kernel_rfl
theorem zs_14 : Str.toString { cps := { toList := [95,95,108,116,95,95] } } = "__lt__" := by kernel_rfl
theorem zs_15 : Str.toString { cps := { toList := [95,95,103,116,95,95] } } = "__gt__" := by kernel_rfl
theorem zs_16 : Str.toString { cps := { toList := [95,95,101,113,95,95] } } = "__eq__" := by kernel_rfl
theorem zs_17 : Str.toString { cps := { toList := [95,95,108,101,95,95] } } = "__le__" := by kernel_rfl
theorem zs_18 : Str.toString { cps := { toList := [95,95,103,101,95,95] } } = "__ge__" := by kernel_rfl
theorem zs_19 : Str.toString { cps := { toList := [95,95,115,108,111,116,115,95,95] } } = "__slots__" := by kernel_rfl
theorem zs_20 : Str.toString { cps := { toList := [95,95,100,105,99,116,95,95] } } = "__dict__" := by kernel_rfl
theorem zs_21 : Str.toString { cps := { toList := [95,95,100,111,99,95,95] } } = "__doc__" := by kernel_rfl
theorem zs_22 : Str.toString { cps := { toList := [95,95,109,111,100,117,108,101,95,95] } } = "__module__" := by kernel_rfl
theorem zs_23 : Str.toString { cps := { toList := [95,95,113,117,97,108,110,97,109,101,95,95] } } = "__qualname__" := by kernel_rfl
theorem zs_24 : Str.toString { cps := { toList := [95,95,99,108,97,115,115,95,95] } } = "__class__" := by kernel_rfl
theorem zs_25 : Str.toString { cps := { toList := [95,95,110,97,109,101,95,95] } } = "__name__" := by kernel_rfl
theorem zs_26 : Str.toString { cps := { toList := [95,95,109,114,111,95,101,110,116,114,105,101,115,95,95] } } = "__mro_entries__" := by kernel_rfl
theorem zs_27 : Str.toString { cps := { toList := [95,95,103,101,116,97,116,116,114,95,95] } } = "__getattr__" := by kernel_rfl
theorem zs_28 : Str.toString { cps := { toList := [95,95,99,111,110,116,97,105,110,115,95,95] } } = "__contains__" := by kernel_rfl
theorem zs_29 : Str.toString { cps := { toList := [95,95,100,101,108,101,116,101,95,95] } } = "__delete__" := by kernel_rfl
theorem zs_30 : Str.toString { cps := { toList := [95,95,108,101,110,95,95] } } = "__len__" := by kernel_rfl
theorem zs_31 : Str.toString { cps := { toList := [95,95,110,101,120,116,95,95] } } = "__next__" := by kernel_rfl
theorem zs_32 : Str.toString { cps := { toList := [95,95,98,111,111,108,95,95] } } = "__bool__" := by kernel_rfl
theorem zs_33 : Str.toString { cps := { toList := [95,95,105,110,100,101,120,95,95] } } = "__index__" := by kernel_rfl
theorem zs_34 : Str.toString { cps := { toList := [111,98,106] } } = "obj" := by kernel_rfl
theorem zs_35 : Str.toString { cps := { toList := [75] } } = "K" := by kernel_rfl
theorem zs_36 : Str.toString { cps := { toList := [115,101,108,102] } } = "self" := by kernel_rfl
theorem zs_37 : Str.toString { cps := { toList := [111,116,104,101,114] } } = "other" := by kernel_rfl
theorem zs_38 : Str.toString { cps := { toList := [109,121,99,109,112] } } = "mycmp" := by kernel_rfl
theorem zs_39 : Str.toString { cps := { toList := [95,95,119,101,97,107,114,101,102,95,95] } } = "__weakref__" := by kernel_rfl
theorem zs_40 : Str.toString { cps := { toList := [95,95,100,101,108,95,95] } } = "__del__" := by kernel_rfl
theorem zs_41 : Str.toString { cps := { toList := [95,95,115,116,97,116,105,99,95,97,116,116,114,105,98,117,116,101,115,95,95] } } = "__static_attributes__" := by kernel_rfl
theorem zs_42 : Str.toString { cps := { toList := [95,95,102,105,114,115,116,108,105,110,101,110,111,95,95] } } = "__firstlineno__" := by kernel_rfl
theorem ts_s (x : String) : toString x = x := rfl
theorem mt_o : ((PySem.W.Fast.findQ "object").elim "type" fun x => x.metatype) = "type" := by kernel_rfl
theorem flt_self {i : DecidableEq Value} (a : Addr) : List.filter (fun x => @bne Value (@instBEqOfDecidableEq Value i) x (Value.ref a)) (Value.ref a :: (fun x => Value.type "object" :: x) []) = [Value.type "object"] := by
  have h1 : @bne Value (@instBEqOfDecidableEq Value i) (Value.type "object") (Value.ref a) = true := by rw [bne_iff_ne]; intro h; cases h
  have h2 : @bne Value (@instBEqOfDecidableEq Value i) (Value.ref a) (Value.ref a) = false := by simp
  show List.filter _ [Value.ref a, Value.type "object"] = _
  rw [List.filter_cons, h2, List.filter_cons, h1]
  rfl
theorem drp_self {i : DecidableEq Value} (a : Addr) : List.drop 1 (List.dropWhile (fun x => @bne Value (@instBEqOfDecidableEq Value i) x (Value.ref a)) (Value.ref a :: (fun x => Value.type "object" :: x) [])) = [Value.type "object"] := by
  simp [List.dropWhile]
theorem id_obj : PySem.W.XFast.xw10133417225327028743 (Str.ofString "obj") = some true := by decide +kernel
theorem ca : PySem.W.XFast.xw7104952167334194321 = codeAmong := PySem.W.XFast.xe7104952167334194321.symm
theorem ad_tt (a : Nat) : oAd.1 a a = .isTrue rfl := Subsingleton.elim _ _
theorem ad_ff {a b : Nat} (h : a ≠ b) : oAd.1 a b = .isFalse h := Subsingleton.elim _ _
end Mine
end PartMX
section PartS1
open PySem PySem.W PyProof.Rows PySem.Calls
set_option Elab.async false
set_option maxRecDepth 100000
namespace Mine
/-- every question asked is of places below n, and the answer meets Q -/
def Asks (n : Nat) (lt : Nat → Nat → Bool) {α : Type} : KasT α → (α → Prop) → Prop
  | .ret a, Q => Q a
  | .ask i j k, Q => i < n ∧ j < n ∧ Asks n lt (k (lt i j)) Q
theorem Asks.mono {n : Nat} {lt : Nat → Nat → Bool} {α : Type} {Q R : α → Prop} (hq : ∀ a, Q a → R a) : ∀ {t : KasT α}, Asks n lt t Q → Asks n lt t R
  | .ret a, h => hq a h
  | .ask _ _ _, ⟨h1, h2, h3⟩ => ⟨h1, h2, Asks.mono hq h3⟩
theorem Asks.bind {n : Nat} {lt : Nat → Nat → Bool} {α β : Type} {Q : β → Prop} {f : α → KasT β} : ∀ {t : KasT α}, Asks n lt t (fun a => Asks n lt (f a) Q) → Asks n lt (t.bind f) Q
  | .ret _, h => h
  | .ask _ _ _, ⟨h1, h2, h3⟩ => ⟨h1, h2, Asks.bind h3⟩
theorem Asks.wp {n : Nat} {lt : Nat → Nat → Bool} {α : Type} {cmp : Nat → Nat → (Bool → Shared → Prop) → Shared → Prop} {I : Shared → Prop}
    (hc : ∀ i j (C : Bool → Shared → Prop) s, i < n → j < n → I s → (∀ s', I s' → C (lt i j) s') → cmp i j C s) {Q : α → Shared → Prop} : ∀ {t : KasT α} {s : Shared}, Asks n lt t (fun a => ∀ s, I s → Q a s) → I s → t.kasWp cmp Q s
  | .ret _, s, h, hi => h s hi
  | .ask i j k, s, ⟨h1, h2, h3⟩, hi => hc i j _ s h1 h2 hi fun _ hi' => Asks.wp hc h3 hi'
/-- a permutation of the first n places -/
def Pm (n : Nat) (p : Array Nat) : Prop := p.Perm (List.toArray (List.range n))
theorem Pm.size {n : Nat} {p : Array Nat} (h : Pm n p) : p.size = n := by rw [Array.Perm.size_eq h]; simp
theorem getD_of {p : Array Nat} {i : Nat} {v : Nat} (h : p[i]? = some v) : p.getD i 0 = v := by
  have hi : i < p.size := by
    apply Nat.lt_of_not_le; intro z; rw [Array.getElem?_eq_none z] at h; cases h
  rw [getElem?_pos p i hi] at h
  simp [Array.getD, hi]; simpa using h
theorem getD_q {p : Array Nat} {i : Nat} (h : i < p.size) : p[i]? = some (p.getD i 0) := by
  rw [getElem?_pos p i h]; simp [Array.getD, h]
theorem Pm.lt {n : Nat} {p : Array Nat} (h : Pm n p) {i : Nat} (hi : i < n) : p.getD i 0 < n := by
  have e := getD_q (p := p) (i := i) (by rw [h.size]; exact hi)
  have : p.getD i 0 ∈ p := Array.mem_of_getElem? e
  have := (Array.Perm.mem_iff h).mp this
  simpa using this
theorem Pm.inj {n : Nat} {p : Array Nat} (h : Pm n p) {i j : Nat} (hi : i < n) (hj : j < n) (hij : i ≠ j) : p.getD i 0 ≠ p.getD j 0 := by
  have hn : p.toList.Nodup := (List.Perm.nodup_iff (Array.perm_iff_toList_perm.mp h)).mpr (by simpa using List.nodup_range)
  have h1 := getD_q (p := p) (i := i) (by rw [h.size]; exact hi)
  have h2 := getD_q (p := p) (i := j) (by rw [h.size]; exact hj)
  intro e
  rw [e] at h1
  rw [← Array.getElem?_toList] at h1 h2
  have hl : i < p.toList.length := by rw [Array.length_toList, h.size]; exact hi
  exact hij ((List.getElem?_inj hl hn).mp (h1.trans h2.symm))
theorem Pm.of {n : Nat} {p q : Array Nat} (h : Pm n p) (hq : q.Perm p) : Pm n q := hq.trans h
section
variable {n : Nat} {lt : Nat → Nat → Bool} (T : ∀ a b c, lt a b = true → lt b c = true → lt a c = true) (D : ∀ a b, a < n → b < n → a ≠ b → lt a b = true ∨ lt b a = true) 
/-- rising up to k -/
def Asc (lt : Nat → Nat → Bool) (p : Array Nat) (k : Nat) : Prop := ∀ i j, i < j → j < k → lt (p.getD i 0) (p.getD j 0) = true
def Dsc (lt : Nat → Nat → Bool) (p : Array Nat) (k : Nat) : Prop := ∀ i j, i < j → j < k → lt (p.getD j 0) (p.getD i 0) = true
include T in
theorem Asc.step {p : Array Nat} {k : Nat} (h : Asc lt p k) (hk : 1 ≤ k) (e : lt (p.getD (k - 1) 0) (p.getD k 0) = true) : Asc lt p (k + 1) := by
  intro i j hij hj
  by_cases hjk : j = k
  · subst hjk
    by_cases hi : i = j - 1
    · rw [hi]; exact e
    · exact T _ _ _ (h i (j - 1) (by omega) (by omega)) e
  · exact h i j hij (by omega)
include T in
theorem Dsc.step {p : Array Nat} {k : Nat} (h : Dsc lt p k) (hk : 1 ≤ k) (e : lt (p.getD k 0) (p.getD (k - 1) 0) = true) : Dsc lt p (k + 1) := by
  intro i j hij hj
  by_cases hjk : j = k
  · subst hjk
    by_cases hi : i = j - 1
    · rw [hi]; exact e
    · exact T _ _ _ e (h i (j - 1) (by omega) (by omega))
  · exact h i j hij (by omega)
include T D in
theorem ask_asc {p : Array Nat} (hp : Pm n p) : ∀ (f k : Nat), 1 ≤ k → k + f ≤ n → Asc lt p k → Asks n lt (kas_asc p f k) fun m => k ≤ m ∧ m ≤ k + f ∧ Asc lt p m
  | 0, k, _, _, h => ⟨Nat.le_refl _, Nat.le_refl _, h⟩
  | f + 1, k, hk, hf, h => by
    refine ⟨hp.lt (by omega), hp.lt (by omega), ?_⟩
    cases e : lt (p.getD k 0) (p.getD (k - 1) 0) with
    | true => exact ⟨Nat.le_refl _, by omega, h⟩
    | false =>
      have e2 : lt (p.getD (k - 1) 0) (p.getD k 0) = true := by
        rcases D _ _ (hp.lt (i := k - 1) (by omega)) (hp.lt (i := k) (by omega)) (hp.inj (by omega) (by omega) (by omega)) with z | z
        · exact z
        · rw [e] at z; cases z
      show Asks n lt (kas_asc p f (k + 1)) _
      exact Asks.mono (fun m hm => ⟨by omega, by omega, hm.2.2⟩) (ask_asc hp f (k + 1) (by omega) (by omega) (Asc.step T h hk e2))
include T D in
theorem ask_desc {p : Array Nat} (hp : Pm n p) : ∀ (f k : Nat), 1 ≤ k → k + f ≤ n → Dsc lt p k → Asks n lt (kas_desc f p k 0) fun r => r.1 = p ∧ r.2.2 = 0 ∧ k ≤ r.2.1 ∧ r.2.1 ≤ k + f ∧ Dsc lt p r.2.1
  | 0, k, _, _, h => ⟨rfl, rfl, Nat.le_refl _, Nat.le_refl _, h⟩
  | f + 1, k, hk, hf, h => by
    refine ⟨hp.lt (by omega), hp.lt (by omega), ?_⟩
    cases e : lt (p.getD k 0) (p.getD (k - 1) 0) with
    | true =>
      show Asks n lt (if 0 > 0 then kas_desc f (kas_rev p (k - (0 + 1)) k) (k + 1) 0 else kas_desc f p (k + 1) 0) _
      rw [if_neg (by omega)]
      exact Asks.mono (fun m hm => ⟨hm.1, hm.2.1, by omega, by omega, hm.2.2.2.2⟩) (ask_desc hp f (k + 1) (by omega) (by omega) (Dsc.step T h hk e))
    | false =>
      have e2 : lt (p.getD (k - 1) 0) (p.getD k 0) = true := by
        rcases D _ _ (hp.lt (i := k - 1) (by omega)) (hp.lt (i := k) (by omega)) (hp.inj (by omega) (by omega) (by omega)) with z | z
        · exact z
        · rw [e] at z; cases z
      refine ⟨hp.lt (by omega), hp.lt (by omega), ?_⟩
      rw [e2]
      exact ⟨rfl, rfl, Nat.le_refl _, Nat.le_add_right _ _, h⟩
theorem rev_asc {p : Array Nat} (hp : Pm n p) {k : Nat} (hk : k ≤ n) (h : Dsc lt p k) : Asc lt (kas_rev p 0 k) k := by
  intro i j hij hj
  have hs := hp.size
  have g : ∀ i, i < k → (kas_rev p 0 k).getD i 0 = p.getD (k - 1 - i) 0 := fun i hi => by
    apply getD_of
    show (mirror p 0 k ((k - 0) / 2))[i]? = _
    rw [getElem?_mirror_all (by omega), if_pos ⟨by omega, hi⟩, show 0 + k - 1 - i = k - 1 - i by omega]
    exact getD_q (by omega)
  rw [g i (by omega), g j hj]
  exact h _ _ (by omega) (by omega)
include T D in
theorem ask_tail3 {p : Array Nat} (hp : Pm n p) {k : Nat} (h1 : 1 ≤ k) (hk : k ≤ n) (h : Dsc lt p k) : Asks n lt (kas_tail3 k n p) fun r => Pm n r.2 ∧ 1 ≤ r.1 ∧ r.1 ≤ n ∧ Asc lt r.2 r.1 := by
  have hp' : Pm n (kas_rev p 0 k) := hp.of (mirror_perm _ _ _ _)
  refine Asks.bind (Asks.mono (fun m hm => ?_) (ask_asc T D hp' (n - k) k h1 (by omega) (rev_asc hp hk h)))
  exact ⟨hp', by omega, by omega, hm.2.2⟩
include T D in
theorem ask_descPart {p : Array Nat} (hp : Pm n p) (hk : 1 < n) (e : lt (p.getD 1 0) (p.getD 0 0) = true) : Asks n lt (kas_descPart 1 n p) fun r => Pm n r.2 ∧ 1 ≤ r.1 ∧ r.1 ≤ n ∧ Asc lt r.2 r.1 := by
  have d2 : Dsc lt p 2 := by
    intro i j hij hj
    have : i = 0 := by omega
    have : j = 1 := by omega
    subst i; subst j; exact e
  refine Asks.bind (Asks.mono (fun r hr => ?_) (ask_desc T D hp (n - 2) 2 (by omega) (by omega) d2))
  obtain ⟨e1, e2, h1, h2, h3⟩ := hr
  rw [e2, e1, if_neg (by omega)]
  exact ask_tail3 T D hp (by omega) (by omega) h3
include T D in
theorem ask_count {p : Array Nat} (hp : Pm n p) (hn : 1 < n) : Asks n lt (kas_count n p) fun r => Pm n r.2 ∧ 1 ≤ r.1 ∧ r.1 ≤ n ∧ Asc lt r.2 r.1 := by
  have key : Asks n lt (kas_asc p (n - 1) 1) fun m => 1 ≤ m ∧ m ≤ n ∧ Asc lt p m ∧ (m = 1 → lt (p.getD 1 0) (p.getD 0 0) = true) := by
    obtain ⟨f, rfl⟩ : ∃ f, n = f + 2 := ⟨n - 2, by omega⟩
    refine ⟨hp.lt (by omega), hp.lt (by omega), ?_⟩
    cases e : lt (p.getD 1 0) (p.getD (1 - 1) 0) with
    | true => exact ⟨Nat.le_refl _, by omega, fun i j hij hj => by omega, fun _ => rfl⟩
    | false =>
      have e2 : lt (p.getD (1 - 1) 0) (p.getD 1 0) = true := by
        rcases D _ _ (hp.lt (i := 1 - 1) (by omega)) (hp.lt (i := 1) (by omega)) (hp.inj (by omega) (by omega) (by omega)) with z | z
        · exact z
        · rw [e] at z; cases z
      show Asks _ lt (kas_asc p f 2) _
      exact Asks.mono (fun m hm => ⟨by omega, by omega, hm.2.2, fun z => by omega⟩) (ask_asc T D hp f 2 (by omega) (by omega) (Asc.step T (fun i j hij hj => by omega) (Nat.le_refl 1) e2))
  refine Asks.bind (Asks.mono (fun m hm => ?_) key)
  obtain ⟨h1, h2, h3, h4⟩ := hm
  by_cases hm : m = n
  · rw [if_pos (by simpa using hm)]
    exact ⟨hp, h1, h2, h3⟩
  · rw [if_neg (by simpa using hm)]
    by_cases h5 : m > 1
    · rw [if_pos h5]
      refine ⟨hp.lt (by omega), hp.lt (by omega), ?_⟩
      rw [h3 0 (m - 1) (by omega) (by omega)]
      exact ⟨hp, h1, h2, h3⟩
    · rw [if_neg h5]
      have : m = 1 := by omega
      subst this
      exact ask_descPart T D hp hn (h4 rfl)
include T D in
theorem ask_place {p : Array Nat} (hp : Pm n p) {k : Nat} (hk : k < n) (h : Asc lt p k) : ∀ (f l r : Nat), r - l ≤ f → l ≤ r → r ≤ k → (∀ i, i < l → lt (p.getD i 0) (p.getD k 0) = true) → (∀ i, r ≤ i → i < k → lt (p.getD k 0) (p.getD i 0) = true) →
    Asks n lt (kas_place p k f l r) fun q => q ≤ k ∧ (∀ i, i < q → lt (p.getD i 0) (p.getD k 0) = true) ∧ (∀ i, q ≤ i → i < k → lt (p.getD k 0) (p.getD i 0) = true)
  | 0, l, r, h1, h2, h3, h4, h5 => ⟨by omega, h4, fun i hi => h5 i (by omega)⟩
  | f + 1, l, r, h1, h2, h3, h4, h5 => by
    unfold kas_place
    by_cases hlr : l ≥ r
    · rw [if_pos hlr]
      exact ⟨by omega, h4, fun i hi => h5 i (by omega)⟩
    · rw [if_neg hlr]
      have hm1 : l ≤ (l + r) / 2 := by omega
      have hm2 : (l + r) / 2 < r := by omega
      generalize (l + r) / 2 = m at hm1 hm2
      refine ⟨hp.lt hk, hp.lt (by omega), ?_⟩
      cases e : lt (p.getD k 0) (p.getD m 0) with
      | true =>
        exact ask_place hp hk h f l m (by omega) hm1 (by omega) h4 fun i hi hik => by
          by_cases him : i = m
          · rw [him]; exact e
          · exact T _ _ _ e (h m i (by omega) hik)
      | false =>
        have e2 : lt (p.getD m 0) (p.getD k 0) = true := by
          rcases D _ _ (hp.lt (i := m) (by omega)) (hp.lt hk) (hp.inj (by omega) (by omega) (by omega)) with z | z
          · exact z
          · rw [e] at z; cases z
        exact ask_place hp hk h f (m + 1) r (by omega) (by omega) h3 (fun i hi => by
          by_cases him : i = m
          · rw [him]; exact e2
          · exact T _ _ _ (h i m (by omega) (by omega)) e2) h5
theorem bub_asc {p : Array Nat} (hp : Pm n p) {k q : Nat} (hk : k < n) (hq : q ≤ k) (h : Asc lt p k) (h4 : ∀ i, i < q → lt (p.getD i 0) (p.getD k 0) = true) (h5 : ∀ i, q ≤ i → i < k → lt (p.getD k 0) (p.getD i 0) = true) :
    Asc lt (bubble p k (k - q)) (k + 1) := by
  have hs := hp.size
  have g : ∀ i, i < k + 1 → (bubble p k (k - q)).getD i 0 = if i = q then p.getD k 0 else if q < i then p.getD (i - 1) 0 else p.getD i 0 := fun i hi => by
    apply getD_of
    rw [getElem?_bubble (by omega) _ (by omega)]
    have e1 : k - (k - q) = q := by omega
    rw [e1]
    by_cases c1 : i = q
    · rw [if_pos c1, if_pos c1]; exact getD_q (by omega)
    · rw [if_neg c1, if_neg c1]
      by_cases c2 : q < i
      · rw [if_pos ⟨c2, by omega⟩, if_pos c2]; exact getD_q (by omega)
      · rw [if_neg (by omega), if_neg c2]; exact getD_q (by omega)
  intro i j hij hj
  rw [g i (by omega), g j hj]
  by_cases c1 : i = q
  · rw [if_pos c1, if_neg (by omega), if_pos (by omega)]
    exact h5 _ (by omega) (by omega)
  · rw [if_neg c1]
    by_cases c2 : q < i
    · rw [if_pos c2, if_neg (by omega), if_pos (by omega)]
      exact h _ _ (by omega) (by omega)
    · rw [if_neg c2]
      by_cases c3 : j = q
      · rw [if_pos c3]; exact h4 _ (by omega)
      · rw [if_neg c3]
        by_cases c4 : q < j
        · rw [if_pos c4]
          exact h _ _ (by omega) (by omega)
        · rw [if_neg c4]
          exact h _ _ (by omega) (by omega)
include T D in
theorem ask_bin : ∀ (f : Nat) {p : Array Nat} {k : Nat}, Pm n p → k + f = n → Asc lt p k → Asks n lt (kas_bin f p k) fun r => Pm n r ∧ Asc lt r n
  | 0, p, k, hp, hk, h => ⟨hp, by rw [← hk]; exact h⟩
  | f + 1, p, k, hp, hk, h => by
    refine Asks.bind (Asks.mono (fun q hq => ?_) (ask_place T D hp (k := k) (by omega) h k 0 k (by omega) (by omega) (Nat.le_refl _) (fun i hi => by omega) fun i h1 h2 => by omega))
    exact ask_bin f (hp.of (bubble_perm _ _ _)) (by omega) (bub_asc hp (by omega) hq.1 h hq.2.1 hq.2.2)
include T D in
theorem ask_sort (hn : 1 < n) : Asks n lt (kas_sort n) fun r => Pm n r ∧ Asc lt r n := by
  refine Asks.bind (Asks.mono (fun r hr => ?_) (ask_count T D (p := List.toArray (List.range n)) (Array.Perm.refl _) hn))
  obtain ⟨h1, h2, h3, h4⟩ := hr
  by_cases c : r.1 < n
  · rw [if_pos c, Nat.max_eq_left h2]
    exact ask_bin T D _ h1 (by omega) h4
  · rw [if_neg c]
    have : r.1 = n := by omega
    exact ⟨h1, by rw [← this]; exact h4⟩
end
end Mine
end PartS1
section PartP1
open PySem PySem.W PyProof.Rows PySem.Calls
set_option Elab.async false
set_option maxRecDepth 100000
namespace Mine
theorem lt_irr : ∀ x : List Int, ltL x x = false
  | [] => rfl
  | a :: x => by simp [ltL, lt_irr x]
theorem lt_tr : ∀ {x y z : List Int}, ltL x y = true → ltL y z = true → ltL x z = true
  | [], [], _, h, _ => by simp [ltL] at h
  | [], _ :: _, [], _, h => by simp [ltL] at h
  | [], _ :: _, _ :: _, _, _ => rfl
  | _ :: _, [], _, h, _ => by simp [ltL] at h
  | _ :: _, _ :: _, [], _, h => by simp [ltL] at h
  | a :: x, b :: y, c :: z, h1, h2 => by
    simp only [ltL] at h1 h2 ⊢
    by_cases e1 : a = b
    · subst e1
      rw [if_pos rfl] at h1
      by_cases e2 : a = c
      · subst e2
        rw [if_pos rfl] at h2 ⊢
        exact lt_tr h1 h2
      · rw [if_neg e2] at h2 ⊢
        exact h2
    · rw [if_neg e1] at h1
      have h1 : a < b := by simpa using h1
      by_cases e2 : b = c
      · subst e2
        rw [if_neg e1]
        simpa using h1
      · rw [if_neg e2] at h2
        have h2 : b < c := by simpa using h2
        rw [if_neg (by omega)]
        simp; omega
theorem lt_tot : ∀ {x y : List Int}, x ≠ y → ltL x y = true ∨ ltL y x = true
  | [], [], h => absurd rfl h
  | [], _ :: _, _ => .inl rfl
  | _ :: _, [], _ => .inr rfl
  | a :: x, b :: y, h => by
    simp only [ltL]
    by_cases e : a = b
    · subst e
      rw [if_pos rfl, if_pos rfl]
      exact lt_tot fun z => h (by rw [z])
    · rw [if_neg e, if_neg (Ne.symm e)]
      by_cases l : a < b
      · exact .inl (by simpa using l)
      · exact .inr (by simp; omega)
theorem lt_app : ∀ (c u v : List Int), ltL (c ++ u) (c ++ v) = ltL u v
  | [], _, _ => rfl
  | a :: c, u, v => by
    show ltL (a :: (c ++ u)) (a :: (c ++ v)) = _
    simp only [ltL, if_pos]
    exact lt_app c u v
/-- the length of what two lists have in common at their heads -/
def lcp : List Int → List Int → Nat
  | a :: x, b :: y => if a = b then lcp x y + 1 else 0
  | [], _ => 0
  | _ :: _, [] => 0
theorem lcp_spec : ∀ {x y : List Int}, ltL x y = true → ∃ c b y', y = c ++ b :: y' ∧ lcp x y = c.length ∧ (x = c ∨ ∃ a x', x = c ++ a :: x' ∧ a < b)
  | [], [], h => by simp [ltL] at h
  | [], b :: y, _ => ⟨[], b, y, rfl, rfl, .inl rfl⟩
  | _ :: _, [], h => by simp [ltL] at h
  | a :: x, b :: y, h => by
    simp only [ltL] at h
    by_cases e : a = b
    · subst e
      rw [if_pos rfl] at h
      obtain ⟨c, b', y', h1, h2, h3⟩ := lcp_spec h
      refine ⟨a :: c, b', y', by rw [h1]; rfl, by simp [lcp, h2], ?_⟩
      rcases h3 with h3 | ⟨a', x', h3, h4⟩
      · exact .inl (by rw [h3])
      · exact .inr ⟨a', x', by rw [h3]; rfl, h4⟩
    · rw [if_neg e] at h
      exact ⟨[], b, y, rfl, by simp [lcp, e], .inr ⟨a, x, rfl, by simpa using h⟩⟩
/-- the beginnings of a list, the shortest first -/
def pre (t : List Int) : List (List Int) := (List.range t.length).map fun i => t.take (i + 1)
theorem pre_len (t : List Int) : (pre t).length = t.length := by simp [pre]
theorem pre_getD {t : List Int} {i : Nat} (h : i < t.length) : (pre t).getD i [] = t.take (i + 1) := by
  simp [pre, List.getD, h]
theorem pre_snoc (t : List Int) (a : Int) : pre (t ++ [a]) = pre t ++ [t ++ [a]] := by
  unfold pre
  rw [List.length_append, List.length_singleton, List.range_succ, List.map_append]
  congr 1
  · apply List.map_congr_left
    intro i hi
    have hi := List.mem_range.mp hi
    rw [List.take_append_of_le_length (by omega)]
  · rw [List.map_singleton, List.take_of_length_le (by simp)]
theorem mem_pre {t x : List Int} : x ∈ pre t ↔ x ≠ [] ∧ x <+: t := by
  unfold pre
  rw [List.mem_map]
  constructor
  · rintro ⟨i, hi, rfl⟩
    have hi := List.mem_range.mp hi
    refine ⟨fun e => ?_, List.take_prefix _ _⟩
    have := congrArg List.length e
    rw [List.length_take, List.length_nil] at this
    omega
  · rintro ⟨h1, h2⟩
    have hl := h2.length_le
    have h0 : 0 < x.length := List.length_pos_iff.mpr h1
    refine ⟨x.length - 1, List.mem_range.mpr (by omega), ?_⟩
    rw [show x.length - 1 + 1 = x.length by omega]
    exact (List.prefix_iff_eq_take.mp h2).symm
theorem mem_pre_drop {t x : List Int} {k : Nat} : x ∈ (pre t).drop k ↔ k < x.length ∧ x <+: t := by
  have hd : (pre t).drop k = ((List.range t.length).drop k).map fun i => t.take (i + 1) := by unfold pre; rw [List.map_drop]
  rw [hd, List.mem_map]
  constructor
  · rintro ⟨i, hi, rfl⟩
    refine ⟨?_, List.take_prefix _ _⟩
    rw [List.mem_iff_getElem?] at hi
    obtain ⟨j, hj⟩ := hi
    rw [List.getElem?_drop] at hj
    have hlt : k + j < t.length := by
      apply Nat.lt_of_not_le; intro z; rw [List.getElem?_eq_none (by simpa using z)] at hj; cases hj
    rw [List.getElem?_range hlt] at hj
    cases hj
    rw [List.length_take]
    omega
  · rintro ⟨h1, h2⟩
    have hl := h2.length_le
    refine ⟨x.length - 1, ?_, ?_⟩
    · rw [List.mem_iff_getElem?]
      refine ⟨x.length - 1 - k, ?_⟩
      rw [List.getElem?_drop, show k + (x.length - 1 - k) = x.length - 1 by omega, List.getElem?_range (by omega)]
    · rw [show x.length - 1 + 1 = x.length by omega]
      exact (List.prefix_iff_eq_take.mp h2).symm
theorem pre_drop_pw (t : List Int) (k : Nat) : ((pre t).drop k).Pairwise fun x y => x <+: y ∧ x.length < y.length := by
  refine List.Pairwise.sublist (List.drop_sublist _ _) ?_
  unfold pre
  rw [List.pairwise_map]
  refine List.Pairwise.imp_of_mem (fun {i j} hi hj hij => ?_) List.pairwise_lt_range
  have hi := List.mem_range.mp hi
  have hj := List.mem_range.mp hj
  refine ⟨?_, by rw [List.length_take, List.length_take]; omega⟩
  have : t.take (i + 1) = (t.take (j + 1)).take (i + 1) := by rw [List.take_take, Nat.min_eq_left (by omega)]
  rw [this]
  exact List.take_prefix _ _
theorem lt_pre {x y : List Int} (h : x <+: y) (hl : x.length < y.length) : ltL x y = true := by
  obtain ⟨r, rfl⟩ := h
  cases r with
  | nil => simp at hl
  | cons a r =>
    have := lt_app x [] (a :: r)
    rw [List.append_nil] at this
    rw [this]
    rfl
theorem le_pre {x y : List Int} (h : x <+: y) : x = y ∨ ltL x y = true := by
  by_cases hl : x.length < y.length
  · exact .inr (lt_pre h hl)
  · exact .inl (h.eq_of_length (by have := h.length_le; omega))
/-- the order in which a part stands behind those that begin with it -/
def lt9 (x y : List Int) : Bool := ltL (x ++ [90]) (y ++ [90])
/-- letters only -/
def Lo (t : List Int) : Prop := ∀ a ∈ t, a < 90
theorem lt_nine {x t : List Int} (h : x <+: t) (hl : Lo t) : ltL t (x ++ [90]) = true := by
  obtain ⟨r, rfl⟩ := h
  rw [lt_app]
  cases r with
  | nil => rfl
  | cons a r =>
    have : a < 90 := hl a (by simp)
    simp only [ltL]
    rw [if_neg (by omega)]
    simpa using this
theorem lt9_pre {x y : List Int} (h : x <+: y) (hx : x.length < y.length) (hl : Lo y) : lt9 y x = true := by
  obtain ⟨r, rfl⟩ := h
  cases r with
  | nil => simp at hx
  | cons a r =>
    have : a < 90 := hl a (by simp)
    unfold lt9
    rw [List.append_assoc, lt_app]
    show ltL (a :: (r ++ [90])) [90] = true
    simp only [ltL]
    rw [if_neg (by omega)]
    simpa using this
/-- what the fold has after the tails ts, the last of them cur -/
structure Inv (ts : List (List Int)) (cur : List Int) (E G : List (List Int)) : Prop where
  e1 : E.Pairwise fun x y => ltL x y = true
  e2 : ∀ x ∈ E, x = cur ∨ ltL x cur = true
  e3 : ∀ x, x ∈ E ↔ ∃ t ∈ ts, x ≠ [] ∧ x <+: t
  g1 : G.Pairwise fun x y => lt9 x y = true
  g2 : ∀ x ∈ G, ltL (x ++ [90]) cur = true
  g3 : ∀ x, (x ∈ G ∨ x ∈ pre cur) ↔ ∃ t ∈ ts, x ≠ [] ∧ x <+: t
theorem Inv.first : Inv [] [] [] [] where
  e1 := .nil
  e2 := fun _ h => (nomatch h)
  e3 := fun x => by simp
  g1 := .nil
  g2 := fun _ h => (nomatch h)
  g3 := fun x => by simp [pre]
theorem Inv.step {ts : List (List Int)} {cur t : List Int} {E G : List (List Int)} (I : Inv ts cur E G) (hl : ltL cur t = true) (hc : Lo cur) :
    Inv (ts ++ [t]) t (E ++ (pre t).drop (lcp cur t)) (G ++ ((pre cur).drop (lcp cur t)).reverse) := by
  obtain ⟨c, b, t', ht, hk, hx⟩ := lcp_spec hl
  rw [hk]
  -- what is new is behind what was
  have newE : ∀ y ∈ (pre t).drop c.length, ltL cur y = true := by
    intro y hy
    obtain ⟨h1, h2⟩ := mem_pre_drop.mp hy
    obtain ⟨r, hr⟩ := h2
    rw [ht] at hr
    -- y = c ++ b :: y'
    obtain ⟨y', hy'⟩ : ∃ y', y = c ++ b :: y' := by
      have e : y = (c ++ b :: t').take y.length := by rw [← hr, List.take_left']; rfl
      rw [List.take_append, List.take_of_length_le (by omega)] at e
      obtain ⟨m, hm⟩ : ∃ m, y.length - c.length = m + 1 := ⟨y.length - c.length - 1, by omega⟩
      rw [hm, List.take_succ_cons] at e
      exact ⟨_, e⟩
    rw [hy']
    rcases hx with hx | ⟨a, x', hx, hab⟩
    · have := lt_app c [] (b :: y')
      rw [List.append_nil] at this
      rw [hx, this]; rfl
    · rw [hx, lt_app]
      simp only [ltL]
      rw [if_neg (by omega)]
      simpa using hab
  have newG : ∀ y ∈ (pre cur).drop c.length, ltL (y ++ [90]) t = true := by
    intro y hy
    obtain ⟨h1, h2⟩ := mem_pre_drop.mp hy
    have hcl := h2.length_le
    rcases hx with hx | ⟨a, x', hx, hab⟩
    · rw [hx] at hcl; omega
    · obtain ⟨r, hr⟩ := h2
      rw [hx] at hr
      obtain ⟨y', hy'⟩ : ∃ y', y = c ++ a :: y' := by
        have e : y = (c ++ a :: x').take y.length := by rw [← hr, List.take_left']; rfl
        rw [List.take_append, List.take_of_length_le (by omega)] at e
        obtain ⟨m, hm⟩ : ∃ m, y.length - c.length = m + 1 := ⟨y.length - c.length - 1, by omega⟩
        rw [hm, List.take_succ_cons] at e
        exact ⟨_, e⟩
      rw [hy', ht, List.append_assoc, lt_app]
      show ltL (a :: (y' ++ [90])) (b :: t') = true
      simp only [ltL]
      rw [if_neg (by omega)]
      simpa using hab
  have cpre : ∀ x, x.length ≤ c.length → (x <+: cur ↔ x <+: t) := by
    intro x hxl
    have q1 : c <+: cur := by
      rcases hx with hx | ⟨a, x', hx, _⟩
      · rw [hx]; exact List.prefix_refl _
      · rw [hx]; exact List.prefix_append _ _
    have q2 : c <+: t := by rw [ht]; exact List.prefix_append _ _
    constructor
    · intro h
      exact (List.prefix_of_prefix_length_le h q1 hxl).trans q2
    · intro h
      exact (List.prefix_of_prefix_length_le h q2 hxl).trans q1
  have old : ∀ x, x ≠ [] → x <+: cur → ∃ u ∈ ts, x ≠ [] ∧ x <+: u := fun x h1 h2 => (I.g3 x).mp (.inr (mem_pre.mpr ⟨h1, h2⟩))
  refine ⟨?_, ?_, ?_, ?_, ?_, ?_⟩
  · rw [List.pairwise_append]
    refine ⟨I.e1, (pre_drop_pw t _).imp fun {x y} h => lt_pre h.1 h.2, fun x hx' y hy => ?_⟩
    rcases I.e2 x hx' with h | h
    · rw [h]; exact newE y hy
    · exact lt_tr h (newE y hy)
  · intro x hx'
    rcases List.mem_append.mp hx' with h | h
    · rcases I.e2 x h with h | h
      · rw [h]; exact .inr hl
      · exact .inr (lt_tr h hl)
    · exact le_pre (mem_pre_drop.mp h).2
  · intro x
    rw [List.mem_append, I.e3, mem_pre_drop]
    constructor
    · rintro (⟨u, hu, h⟩ | ⟨h1, h2⟩)
      · exact ⟨u, List.mem_append_left _ hu, h⟩
      · exact ⟨t, by simp, fun z => by rw [z] at h1; simp at h1, h2⟩
    · rintro ⟨u, hu, h1, h2⟩
      rcases List.mem_append.mp hu with hu | hu
      · exact .inl ⟨u, hu, h1, h2⟩
      · rw [List.mem_singleton] at hu
        subst hu
        by_cases hlen : c.length < x.length
        · exact .inr ⟨hlen, h2⟩
        · exact .inl (old x h1 ((cpre x (by omega)).mpr h2))
  · rw [List.pairwise_append]
    refine ⟨I.g1, ?_, fun x hx' y hy => ?_⟩
    · rw [List.pairwise_reverse]
      refine List.Pairwise.imp_of_mem (fun {x y} hx1 hy1 h => lt9_pre h.1 h.2 fun a ha => ?_) (pre_drop_pw cur _)
      obtain ⟨r, hr⟩ := (mem_pre_drop.mp hy1).2
      exact hc a (by rw [← hr]; exact List.mem_append_left _ ha)
    · have hy := List.mem_reverse.mp hy
      exact lt_tr (I.g2 x hx') (lt_nine (mem_pre_drop.mp hy).2 hc)
  · intro x hx'
    rcases List.mem_append.mp hx' with h | h
    · exact lt_tr (I.g2 x h) hl
    · exact newG x (List.mem_reverse.mp h)
  · intro x
    rw [List.mem_append, List.mem_reverse, mem_pre_drop, mem_pre]
    constructor
    · rintro ((h | ⟨h1, h2⟩) | ⟨h1, h2⟩)
      · obtain ⟨u, hu, q⟩ := (I.g3 x).mp (.inl h)
        exact ⟨u, List.mem_append_left _ hu, q⟩
      · obtain ⟨u, hu, q⟩ := old x (fun z => by rw [z] at h1; simp at h1) h2
        exact ⟨u, List.mem_append_left _ hu, q⟩
      · exact ⟨t, by simp, h1, h2⟩
    · rintro ⟨u, hu, h1, h2⟩
      rcases List.mem_append.mp hu with hu | hu
      · rcases (I.g3 x).mpr ⟨u, hu, h1, h2⟩ with h | h
        · exact .inl (.inl h)
        · have h := (mem_pre.mp h).2
          by_cases hlen : c.length < x.length
          · exact .inl (.inr ⟨hlen, h⟩)
          · exact .inr ⟨h1, (cpre x (by omega)).mp h⟩
      · rw [List.mem_singleton] at hu
        subst hu
        exact .inr ⟨h1, h2⟩
theorem Inv.last {ts : List (List Int)} {cur : List Int} {E G : List (List Int)} (I : Inv ts cur E G) (hc : Lo cur) :
    (G ++ (pre cur).reverse).Pairwise (fun x y => lt9 x y = true) ∧ ∀ x, x ∈ G ++ (pre cur).reverse ↔ ∃ t ∈ ts, x ≠ [] ∧ x <+: t := by
  constructor
  · rw [List.pairwise_append]
    refine ⟨I.g1, ?_, fun x hx y hy => ?_⟩
    · rw [List.pairwise_reverse]
      have := pre_drop_pw cur 0
      rw [List.drop_zero] at this
      refine List.Pairwise.imp_of_mem (fun {x y} hx1 hy1 h => lt9_pre h.1 h.2 fun a ha => ?_) this
      obtain ⟨r, hr⟩ := (mem_pre.mp hy1).2
      exact hc a (by rw [← hr]; exact List.mem_append_left _ ha)
    · exact lt_tr (I.g2 x hx) (lt_nine (mem_pre.mp (List.mem_reverse.mp hy)).2 hc)
  · intro x
    rw [List.mem_append, List.mem_reverse]
    exact I.g3 x
theorem uniq {α : Type} {R : α → α → Prop} (hi : ∀ x, ¬ R x x) (ht : ∀ x y z, R x y → R y z → R x z) : ∀ {a b : List α}, a.Pairwise R → b.Pairwise R → (∀ x, x ∈ a ↔ x ∈ b) → a = b
  | [], [], _, _, _ => rfl
  | [], y :: b, _, _, h => by have := (h y).mpr (.head _); cases this
  | x :: a, [], _, _, h => by have := (h x).mp (.head _); cases this
  | x :: a, y :: b, ha, hb, h => by
    have ha' := List.pairwise_cons.mp ha
    have hb' := List.pairwise_cons.mp hb
    have exy : x = y := by
      rcases List.mem_cons.mp ((h x).mp (.head _)) with e | e
      · exact e
      · rcases List.mem_cons.mp ((h y).mpr (.head _)) with e' | e'
        · exact e'.symm
        · exact absurd (ht _ _ _ (ha'.1 y e') (hb'.1 x e)) (hi x)
    subst exy
    congr 1
    refine uniq hi ht ha'.2 hb'.2 fun z => ?_
    constructor
    · intro hz
      rcases List.mem_cons.mp ((h z).mp (.tail _ hz)) with e | e
      · subst e; exact absurd (ha'.1 z hz) (hi z)
      · exact e
    · intro hz
      rcases List.mem_cons.mp ((h z).mpr (.tail _ hz)) with e | e
      · subst e; exact absurd (hb'.1 z hz) (hi z)
      · exact e
end Mine
end PartP1
section PartKA
open PySem PySem.W PyProof.Rows PySem.Calls
set_option Elab.async false
set_option maxRecDepth 100000
namespace Mine
/-- the body of a class statement -/
def inCls : Stmt → List Stmt
  | .ClassDef _ _ _ b .. => b
  | _ => []
def prmOf : Stmt → Arguments
  | .FunctionDef _ a .. => a
  | _ => { posonlyargs := [], args := [], vararg := none, kwonlyargs := [], kw_defaults := [], kwarg := none, defaults := [] }
def bodOf : Stmt → List Stmt
  | .FunctionDef _ _ b .. => b
  | _ => []
def scoOf : Stmt → Scope
  | .FunctionDef (scope := s) .. => s
  | _ => { kind := .module, names := [], isGenerator := false, isCoroutine := false }
/-- the body of a function object -/
def bodyOf : Option Obj → List Stmt
  | some ⟨_, _, .func fd, _⟩ => (match fd.body with
    | .stmts b => b
    | _ => [])
  | _ => []
/-- the i-th statement of the class in cmp_to_key -/
noncomputable def kStm (w : World) (i : Nat) : Stmt := (inCls ((bodyOf ((hd.heap_39 w.params).lookup 42)).getD 0 (.Pass ⟨0, 0, 0, 0⟩))).getD i (.Pass ⟨0, 0, 0, 0⟩)
/-- what cmp_to_key has made -/
structure KEnd (w : World) (p : Nat) (l : Addr) (h : Heap) : Prop where
  cls : ∃ cd sl, h.get? (p + 136) = some ⟨.type "type", none, .cls cd, sl⟩ ∧ cd.mro = [.ref (p + 136), .type "object"] ∧ cd.ns = p + 135 ∧ cd.hasDict = false ∧ cd.slotNames.length = 1 ∧ cd.abstract = false ∧ cd.hasDel = false ∧
    (sl.toList[4]?).join = some (.builtin "object.__new__")
  dict : ∃ o, h.get? (p + 135) = some o ∧ nsIn [(0, o)] 0 "__init__" = some (some (.ref (p + 92))) ∧ nsIn [(0, o)] 0 "__lt__" = some (some (.ref (p + 100))) ∧ nsIn [(0, o)] 0 "obj" = some (some (.ref (p + 137))) ∧
    nsIn [(0, o)] 0 "__getattribute__" = some none ∧ nsIn [(0, o)] 0 "__getattr__" = some none ∧ nsIn [(0, o)] 0 "__setattr__" = some none
  desc : ∃ n t t', h.get? (p + 137) = some ⟨.type "member_descriptor", none, .fields #[.str n t, .ref (p + 136), .builtin "proto.slot", .builtin "proto.slot#set", .int 0 t'], #[]⟩
  init : ∃ name qual pm ct, h.get? (p + 92) = some ⟨.type "function", none, .func (fnX name qual (prmOf (kStm w 2)) (bodOf (kStm w 2)) (scoOf (kStm w 2)) [] .none .none .none pm none (.ref (p + 91)) ct), #[]⟩ ∧ h.CodeRec (.ref (p + 91)) qual
  less : ∃ name qual pm ct, h.get? (p + 100) = some ⟨.type "function", none, .func (fnX name qual (prmOf (kStm w 3)) (bodOf (kStm w 3)) (scoOf (kStm w 3)) [("mycmp", p + 77)] .none .none .none pm none (.ref (p + 99)) ct), #[]⟩ ∧ h.CodeRec (.ref (p + 99)) qual
  cell : h.get? (p + 77) = some ⟨.type "cell", none, .cell (some (.ref l)), #[]⟩
end Mine
end PartKA
section PartMYF
open PySem PySem.W PyProof.Rows PySem.Calls PySem.W.X
set_option Elab.async false
set_option maxRecDepth 100000
set_option linter.unusedSimpArgs false
set_option linter.unusedVariables false
namespace Mine
local macro_rules | `(tactic| x_close) => `(tactic| first
  | with_reducible refine ge_postR ?_
  | with_reducible refine ge_EC ?_
  | with_reducible refine ge_EA ?_
  | with_reducible refine ge_EO ?_
  | with_reducible refine m_bind ?_
  | with_reducible refine m_bind' ?_
  | with_reducible refine m_keep ?_
  | with_reducible refine m_holding ?_
  | with_reducible refine m_onRaise ?_
  | with_reducible refine m_tryCatch ?_
  | with_reducible refine m_tryCatch' ?_
  | with_reducible refine m_attempt ?_
  | with_reducible refine m_look (lb1 ‹LBt _›) ?_
  | with_reducible refine m_look (lb2 ‹LBt _›) ?_
  | with_reducible refine m_look (em0 _) ?_
  | with_reducible refine m_cond (near_ff ‹Lies _ _› (Nat.le_of_ble_eq_true rfl) _) ?_
  | with_reducible refine m_cond (over_ff ‹Lies _ _› (Nat.le_of_ble_eq_true rfl) _) ?_
  | with_reducible refine m_cond (warm_ff ‹Lies _ _› (Nat.le_of_ble_eq_true rfl) _) ?_
  | with_reducible refine m_cond (room_ff ‹Lies _ _› (Nat.le_of_ble_eq_true rfl)) ?_
  | (refine m_skim ?_
     conv => arg 1; whnf
     first
    | ((with_reducible refine' m_load ?a ?e ?_); (case a => exact rfl); (case e => exact rfl))
    | ((with_reducible refine m_load37 ?a ?_); (case a => exact rfl))
    | ((with_reducible refine m_load0 (by assumption) ?a ?_); (case a => exact rfl))
    | ((with_reducible refine' m_loadO ?e ?b ?_); (case e => assumption); (case b => decide))
    | ((with_reducible refine' m_loadK ‹Frag.In _ _› ?e ?b ?_); (case e => exact rfl); (case b => exact rfl))
    | ((with_reducible refine' m_fresh ?t ?_); (case t => ((try simp only [Nat.add_assoc, Nat.reduceAdd]); exact rfl)))
    | ((with_reducible refine m_call ?n ?_); rotate_left; (try conv => arg 1; arg 1; whnf); (try conv => arg 11; whnf); (try (conv => arg 1; arg 1; simp only [List.zip_nil_right, List.filter_nil, mt_o, ts_s, String.reduceAppend, zs_0, zs_1, zs_2, zs_3, zs_4, zs_5, zs_6, zs_7, zs_8, zs_9, zs_10, zs_11, zs_12, zs_13, zs_14, zs_15, zs_16, zs_17, zs_18, zs_19, zs_20, zs_21, zs_22, zs_23, zs_24, zs_25, zs_26, zs_27, zs_28, zs_29, zs_30, zs_31, zs_32, zs_33, zs_34, zs_35, zs_36, zs_37, zs_38, zs_39, zs_40, zs_41, zs_42])); (try (conv => arg 11; simp only [List.zip_nil_right, List.filter_nil, mt_o, ts_s, String.reduceAppend, zs_0, zs_1, zs_2, zs_3, zs_4, zs_5, zs_6, zs_7, zs_8, zs_9, zs_10, zs_11, zs_12, zs_13, zs_14, zs_15, zs_16, zs_17, zs_18, zs_19, zs_20, zs_21, zs_22, zs_23, zs_24, zs_25, zs_26, zs_27, zs_28, zs_29, zs_30, zs_31, zs_32, zs_33, zs_34, zs_35, zs_36, zs_37, zs_38, zs_39, zs_40, zs_41, zs_42])); rotate_left; (case n => first | (intro h; cases h) | simp [byPass]))
    | with_reducible refine m_done ?_
    | with_reducible refine m_pureB ?_
    | with_reducible refine m_pureA ?_
    | with_reducible refine m_pureE ?_
    | with_reducible refine m_raise0 ?_
    | ((with_reducible refine m_again ?q ?_); rotate_left; (try conv => arg 1; arg 1; whnf); (try conv => arg 11; whnf); (try (conv => arg 1; arg 1; simp only [List.zip_nil_right, List.filter_nil, mt_o, ts_s, String.reduceAppend, zs_0, zs_1, zs_2, zs_3, zs_4, zs_5, zs_6, zs_7, zs_8, zs_9, zs_10, zs_11, zs_12, zs_13, zs_14, zs_15, zs_16, zs_17, zs_18, zs_19, zs_20, zs_21, zs_22, zs_23, zs_24, zs_25, zs_26, zs_27, zs_28, zs_29, zs_30, zs_31, zs_32, zs_33, zs_34, zs_35, zs_36, zs_37, zs_38, zs_39, zs_40, zs_41, zs_42])); (try (conv => arg 11; simp only [List.zip_nil_right, List.filter_nil, mt_o, ts_s, String.reduceAppend, zs_0, zs_1, zs_2, zs_3, zs_4, zs_5, zs_6, zs_7, zs_8, zs_9, zs_10, zs_11, zs_12, zs_13, zs_14, zs_15, zs_16, zs_17, zs_18, zs_19, zs_20, zs_21, zs_22, zs_23, zs_24, zs_25, zs_26, zs_27, zs_28, zs_29, zs_30, zs_31, zs_32, zs_33, zs_34, zs_35, zs_36, zs_37, zs_38, zs_39, zs_40, zs_41, zs_42])); rotate_left; (case q => ((try simp only [List.zip_nil_right, List.filter_nil, mt_o, ts_s, String.reduceAppend, zs_0, zs_1, zs_2, zs_3, zs_4, zs_5, zs_6, zs_7, zs_8, zs_9, zs_10, zs_11, zs_12, zs_13, zs_14, zs_15, zs_16, zs_17, zs_18, zs_19, zs_20, zs_21, zs_22, zs_23, zs_24, zs_25, zs_26, zs_27, zs_28, zs_29, zs_30, zs_31, zs_32, zs_33, zs_34, zs_35, zs_36, zs_37, zs_38, zs_39, zs_40, zs_41, zs_42]); kernel_rfl)))
    | ((with_reducible refine' m_alloc ?m ?f ?_); (case m => (simp only [Nat.reduceAdd]; exact rfl)); (case f => exact rfl))
    | ((with_reducible refine' m_update ?a ?e ?f ?_); (case a => exact rfl); (case e => exact rfl); (case f => exact rfl); (conv => arg 6; arg 1; arg 2; whnf); (try (conv => arg 6; arg 1; arg 2; arg 3; whnf; (try (arg 1; whnf; arg 1; whnf; (try (arg 2; whnf; (try (arg 2; whnf; (try (arg 2; whnf; (try (arg 2; whnf; (try (arg 2; whnf; (try (arg 2; whnf; (try (arg 2; whnf; (try (arg 2; whnf; (try (arg 2; whnf; (try (arg 2; whnf; (try (arg 2; whnf; (try (arg 2; whnf; (try (arg 2; whnf; (try (arg 2; whnf; (try (arg 2; whnf; (try (arg 2; whnf; (try (arg 2; whnf; (try (arg 2; whnf; (try (arg 2; whnf; (try (arg 2; whnf; (try (arg 2; whnf; (try (arg 2; whnf; skip)))))))))))))))))))))))))))))))))))))))))))))))); (try (conv => arg 6; arg 1; arg 2; arg 4; whnf; arg 1; whnf; (try (arg 2; whnf; (try (arg 2; whnf; (try (arg 2; whnf; (try (arg 2; whnf; (try (arg 2; whnf; (try (arg 2; whnf; (try (arg 2; whnf; (try (arg 2; whnf; (try (arg 2; whnf; (try (arg 2; whnf; skip)))))))))))))))))))))))
    | ((with_reducible refine' m_update37 ?a ?e ?_); (case a => exact rfl); (case e => exact rfl))
    | with_reducible refine m_handled ?_
    | with_reducible refine m_stack fun pp below lies => ?_)
  | rw [ca]
  | (conv => arg 1; whnf
     first
    | with_reducible refine m_bind ?_
    | with_reducible refine m_bind' ?_
    | with_reducible refine m_keep ?_
    | with_reducible refine m_onRaise ?_
    | with_reducible refine m_tryCatch ?_
    | rw [id_obj]
    | ((with_reducible refine m_recF ?e ?_); (case e => first | decide +kernel | (simp [Builtin.List.listSameRef]; done)))
    | ((with_reducible refine m_recT ?e ?_); (case e => first | decide +kernel | (simp [Builtin.List.listSameRef]; done)))))
set_option maxHeartbeats 8000000 in
theorem cls (w : World) (s : Shared) (h0 : Heap) (tk p : Nat) (X : (hd.heap_39 w.params).In h0) (hz : h0.objs.size = p + 76) (ht : h0.get? 37 = some (tableObj #[])) (ob : Obj) (hb : h0.get? 0 = some ob) (LB : LBt ob) (sl4 : Array (Option Value)) (h4 : h0.get? 4 = some ⟨.type "module", some 0, .plain, sl4⟩) (fr : Option (List Env)) (gd : Option (List Code)) (l : Addr) (R : Result → Shared → Prop)
    (hR : ∀ h tk', h.objs.size = p + 140 → (∀ b o, b ≠ 37 → h0.get? b = some o → h.get? b = some o) → (∃ tb, h.get? 37 = some (tableObj tb)) → KEnd w p l h → R (.ok (.ret (.ref (p + 136)))) (St s h tk')) :
    codeAny (model prg w) { handled := none, depth := 302, frames := fr, guards := gd, units := 7 } (.call (.ref 42) ⟨[.ref l], []⟩) R (St s h0 tk) := by
  refine m_code ?_
  refine (show Go _ w s p h0 [] 76 #[] tk _ _ _ _ from ?_) h0 (Rp.start hz ht)
  repeat x_close
  (conv => arg 1; whnf)
  ((with_reducible refine m_recF ?e ?_); (case e => kernel_rfl))
  repeat x_close
  (conv => arg 1; whnf)
  ((with_reducible refine m_recF ?e ?_); (case e => kernel_rfl))
  repeat x_close
  (conv => arg 1; whnf)
  (conv => arg 1; arg 2; rw [flt_self])
  repeat x_close
  with_reducible refine m_forIn (as' := [Value.type "object"]) ?e ?_
  (case e => exact drp_self (p + 136))
  repeat x_close
  (conv => arg 1; whnf)
  ((with_reducible refine m_recF ?e ?_); (case e => (simp [condFn]; rfl)))
  repeat x_close
  (conv => arg 1; whnf)
  refine (fun h D => y_pure _ _ _ _ _ _ _ _ _ ?_)
  have c1 : ∃ n t t', h.get? (p + 137) = some ⟨.type "member_descriptor", none, .fields #[.str n t, .ref (p + 136), .builtin "proto.slot", .builtin "proto.slot#set", .int 0 t'], #[]⟩ := ⟨_, _, _, (D.get 137 _ rfl).2⟩
  have c2 : h.get? (p + 77) = some ⟨.type "cell", none, .cell (some (.ref l)), #[]⟩ := (D.get 77 _ rfl).2
  have c3 : ∃ name qual pm ct, h.get? (p + 92) = some ⟨.type "function", none, .func (fnX name qual (prmOf (kStm w 2)) (bodOf (kStm w 2)) (scoOf (kStm w 2)) [] .none .none .none pm none (.ref (p + 91)) ct), #[]⟩ ∧ h.CodeRec (.ref (p + 91)) qual :=
    ⟨_, _, _, _, (D.get 92 _ rfl).2, ⟨_, _, _, _, rfl, (D.get 91 _ rfl).2, rfl, rfl⟩⟩
  have c4 : ∃ name qual pm ct, h.get? (p + 100) = some ⟨.type "function", none, .func (fnX name qual (prmOf (kStm w 3)) (bodOf (kStm w 3)) (scoOf (kStm w 3)) [("mycmp", p + 77)] .none .none .none pm none (.ref (p + 99)) ct), #[]⟩ ∧ h.CodeRec (.ref (p + 99)) qual :=
    ⟨_, _, _, _, (D.get 100 _ rfl).2, ⟨_, _, _, _, rfl, (D.get 99 _ rfl).2, rfl, rfl⟩⟩
  have c5 : ∃ o, h.get? (p + 135) = some o ∧ nsIn [(0, o)] 0 "__init__" = some (some (.ref (p + 92))) ∧ nsIn [(0, o)] 0 "__lt__" = some (some (.ref (p + 100))) ∧ nsIn [(0, o)] 0 "obj" = some (some (.ref (p + 137))) ∧
    nsIn [(0, o)] 0 "__getattribute__" = some none ∧ nsIn [(0, o)] 0 "__getattr__" = some none ∧ nsIn [(0, o)] 0 "__setattr__" = some none := ⟨_, (D.get 135 _ rfl).2, by kernel_rfl, by kernel_rfl, by kernel_rfl, by kernel_rfl, by kernel_rfl, by kernel_rfl⟩
  have c6 : ∃ cd sl, h.get? (p + 136) = some ⟨.type "type", none, .cls cd, sl⟩ ∧ cd.mro = [.ref (p + 136), .type "object"] ∧ cd.ns = p + 135 ∧ cd.hasDict = false ∧ cd.slotNames.length = 1 ∧ cd.abstract = false ∧ cd.hasDel = false ∧
    (sl.toList[4]?).join = some (.builtin "object.__new__") := by
    refine ⟨_, _, (D.get 136 _ rfl).2, rfl, rfl, rfl, rfl, rfl, ?_, ?_⟩
    · show (Array.any _ _ _ _ || false) = false
      rw [Bool.or_false, ← Array.any_toList]
      kernel_rfl
    · kernel_rfl
  exact hR h _ D.size D.keep ⟨_, D.tab⟩ ⟨c6, c5, c1, c3, c4, c2⟩
end Mine
end PartMYF
section PartM11
open PySem PySem.W PyProof.Rows PySem.Calls
set_option Elab.async false
set_option maxRecDepth 100000
namespace Mine
section
variable {prog : Program} {w : World} {A : Around} {E : Value → Shared → Prop} {s : Shared} {h : Heap} {tk : Nat} {N : Nat} {g0 : Heap} {L : Addr} {m : Str → Option Value}
/-- iter(a list) -/
theorem callIter {Q : Value → Shared → Prop} {l : Addr} {vs : List Value} (F : Fm N g0 L h m) (hl : h.IsList l vs.toArray)
    (q : ∀ it h', Fm N g0 L h' m → Kp N h h' → h'.IsListIter it l 0 → h.get? it = none → Q (.ref it) (St s h' tk)) : wpAny (model prog w) A (call (.builtin "iter") [.ref l]) Q E (St s h tk) := by
  refine call_function_entry (s := St s h tk) (by decide +kernel) (by decide +kernel) kdk_entry_iter (kdk_args_iter _) ?_
  unfold Builtin.«iter»
  refine wpAny_bind (m := someArgs "iter" 1 2 _) (wpAny_of_eq (a := [Value.ref l]) (by first | rfl | kernel_rfl!) ?_)
  show wpAny _ _ (pyIter (.ref l) >>= _) _ _ _
  refine wpAny_bind (wpAny_pyIter_list (s := St s h tk) hl ?_)
  refine wpAny_pure ⟨_, rfl, q _ _ (frK F (Kp.push _ _)) (Kp.push _ _) ?_ (Heap.get?_none_of_le (Nat.le_refl _))⟩
  exact ⟨_, Heap.get?_push_size _ rfl, rfl, rfl⟩
/-- a tuple is not the object at y -/
theorem is_tup {Q : Value → Shared → Prop} {x y : Addr} {oy : Obj} {vs : Array Value} (hx : IsTup h x vs) (hy : h.get? y = some oy) (hc : oy.cls = .type "object") (q : Q (.bool false) (St s h tk)) :
    wpAny (model prog w) A (compareOp .Is (.ref x) (.ref y)) Q E (St s h tk) := by
  obtain ⟨ox, ho, hco, n, hd⟩ := hx
  have hxy : x ≠ y := fun z => by
    rw [z, hy] at ho; cases ho; rw [hc] at hco; exact absurd (Value.type.inj hco) (by decide)
  show wpAny _ A (do return .bool (← isSame (.ref x) (.ref y))) Q E (St s h tk)
  refine wpAny_bind ?_
  show wpAny _ A (if (x == y) = true then pure true else _) _ E _
  rw [if_neg (by simpa using hxy)]
  refine wpAny_bind (wpAny_load (s := St s h tk) ho (wpAny_bind (wpAny_load (s := St s h tk) hy ?_)))
  split
  · rename_i h1 h2 _ _; rw [hc] at h2; exact absurd (Value.type.inj h2) (by decide)
  · exact wpAny_pure (wpAny_pure q)
end
section
variable {w : World} {A : Around} {E : Value → Shared → Prop} {s : Shared} {Q : Value → Shared → Prop} {mean : ExcName → Option Value} {mg mb : Str → Option Value} {N : Nat} {outer : List Env}
/-- what stands between the turns of reduce -/
def IR (N : Nat) (g0 : Heap) (L : Addr) (s₀ : Shared) (J : Nat → Value → Heap → Prop) (it l : Addr) (f : Addr) (n : Nat) (k : Nat) (s : Shared) : Prop :=
  ∃ h tk m v i, s = St s₀ h tk ∧ Fm N g0 L h m ∧ m "function" = some (.ref f) ∧ m "value" = some v ∧ h.IsListIter it l i ∧ J i v h ∧ i + k = n

set_option maxHeartbeats 4000000 in
theorem reduce {f l : Addr} {of : Obj} {fd : FuncData} {ini : Value} {vs : List Value} (J : Nat → Value → Heap → Prop) (g : G w mean mg mb N s.heap) (hd : A.depth + 1 < recursionLimit) (hh : A.handled = none)
    (hfr : A.frames = some outer) (fo : FOk N s.heap outer) (hl : s.heap.IsList l vs.toArray) (hf : s.heap.get? f = some of) (hfd : of.data = .func fd)
    (his : ∀ (A' : Around) (E' : Value → Shared → Prop) h tk (K : Value → Shared → Prop), Kp N s.heap h → K (.bool false) (St s h tk) → wpAny (model prg w) A' (compareOp .Is ini (.ref 43)) K E' (St s h tk))
    (j0 : ∀ h, Kp N s.heap h → J 0 ini h) (stab : ∀ i v h h', J i v h → KS h h' → J i v h')
    (turn : ∀ (A' : Around) (outer' : List Env) i v x h tk (K : Value → Shared → Prop) (E' : Value → Shared → Prop), A'.depth = A.depth + 1 → A'.units = A.units + 3 → A'.handled = none → A'.frames = some outer' → FOk N h outer' → G w mean mg mb N h → Kp N s.heap h → J i v h → vs[i]? = some x →
      (∀ v' h' tk', Kp N h h' → J (i + 1) v' h' → K v' (St s h' tk')) → wpAny (model prg w) A' (call (.ref f) [v, x]) K E' (St s h tk))
    (hQ : ∀ v h' tk, Kp N s.heap h' → J vs.length v h' → Q v (St s h' tk)) :
    wpAny (model prg w) A (call (.ref 51) [.ref f, .ref l, ini]) Q E s := by
  refine wpAny_call ?_
  refine call_plainD (binds := [("function", .ref f), ("sequence", .ref l), ("initial", ini)]) (by omega) (g.X 51 _ rfl) rfl g.T.nolimit (codeRec_of g.X (by rfl)) ?_ (locs rfl) ?_
  · exact binds_K g.X rfl (by rfl) rfl rfl rfl
  intro h₁ F
  refine wpAny_mono ?_ (fun _ _ x => x) (fun _ _ (x : False) => x.elim)
  have F := Fm.enter F g.low
  show wpAny _ _ _ _ _ (St s h₁ _)
  refine wA (cN (wB F g (by kernel_rfl) boot_iter (cwB (evs_cons (wL F rfl (evs_nil ?_)))))) sw3
  have hl₁ := isList_kp hl F.kp
  refine callIter F hl₁ fun it h2 F2 k2 hit2 itn => ?_
  have git : s.heap.get? it = none := new_none F itn
  refine wS F2 fun h3 tk3 F3 k3 => ?_
  have hit3 : h3.IsListIter it l 0 := by
    obtain ⟨o, e, c, d⟩ := hit2
    exact ⟨o, KF.kb F2.ns k3 _ _ _ e d, c, d⟩
  refine wpAny_execs_cons (wpAny_If (wpAny_isTrue_Compare1 (wL F3 rfl (wG F3 g (by kernel_rfl) (his _ _ _ _ _ F3.kp (wpAny_truthy_bool ?_)))) rfl))
  refine iteF rfl ?_
  refine wA (wL F3 rfl (wS F3 fun h4 tk4 F4 k4 => wpAny_execs_nil ?_)) rfl
  have hit4 : h4.IsListIter it l 0 := by
    obtain ⟨o, e, c, d⟩ := hit3
    exact ⟨o, KF.kb F3.ns k4 _ _ _ e d, c, d⟩
  refine wpAny_execs_cons (wpAny_For (wL F4 rfl (wpAny_pyIter_listiter (s := St s h4 tk4) hit4 ?_)) (fun _ => rfl))
  refine codeAny_forLoop (IR N s.heap s.heap.objs.size s J it l f vs.length) ?_ vs.length ⟨h4, tk4, _, ini, 0, rfl, F4, rfl, rfl, hit4, j0 _ F4.kp, by omega⟩
  rintro k s' ⟨h, tk, m, v, i, rfl, F, e1, e2, hit, ji, hik⟩
  have itL : it ≠ s.heap.objs.size := by
    obtain ⟨o, e, c, d⟩ := hit
    exact ne_L F e d
  have hlh := isList_kp hl F.kp
  by_cases hlt : i < vs.length
  · obtain ⟨x, hx⟩ : ∃ x, vs[i]? = some x := ⟨_, List.getElem?_eq_getElem hlt⟩
    refine wpAny_pyNext_list_item (s := St s h tk) hit hlh (by simpa using hx) fun h5 hit5 sb5 => ?_
    show wpAny _ _ (assign (.Name _ _) _ _) _ _ (St s h5 _)
    have F5 := frU F sb5 itL git
    have ks5 : KS h h5 := by
      obtain ⟨o, e, c, d⟩ := hit
      exact KS.ext e d sb5.extBut
    refine PyProof.Rows.assign_Name (wS F5 fun h6 tk6 F6 k6 => ?_)
    have hit6 : h6.IsListIter it l (i + 1) := by
      obtain ⟨o, e, c, d⟩ := hit5
      exact ⟨o, KF.kb F5.ns k6 _ _ _ e d, c, d⟩
    have j6 := stab i v h h6 ji (ks5.trans (KS.kb F5.ns k6))
    have hf6 : h6.get? f = some of := F6.kp.hard hf fun z => by
      have := z.2; unfold dictAt at this; rw [hfd] at this; cases this
    refine wA (cN (wL F6 e1 (cwF hfd (evs_cons (wL F6 e2 (evs_cons (wL F6 rfl (evs_nil ⟨hf6, ?_⟩)))))))) sw3
    refine turn _ _ i v x h6 tk6 _ _ rfl rfl hh (Around.frames_deeper hfr) (fo.cons F6 rfl) (g.fm F6) F6.kp j6 hx fun v7 h7 tk7 k7 j7 => ?_
    have F7 := frK F6 k7
    refine wS F7 fun h8 tk8 F8 k8 => wpAny_execs_nil ?_
    refine ⟨k - 1, by omega, h8, tk8, _, v7, i + 1, rfl, F8, e1, rfl, ?_, stab _ _ _ _ j7 (KS.kb F7.ns k8), by omega⟩
    obtain ⟨o, e, c, d⟩ := hit6
    exact ⟨o, KF.kb F7.ns k8 _ _ _ (KF.kp k7 _ _ _ e d) d, c, d⟩
  · have hn : i = vs.length := by omega
    subst hn
    refine wpAny_pyNext_list_end (s := St s h tk) hh hit hlh (by simp) fun h5 eb5 => ?_
    show wpAny _ _ (execs [] _) _ _ (St s h5 _)
    have F5 := frE F eb5 itL git
    have ks5 : KS h h5 := by
      obtain ⟨o, e, c, d⟩ := hit
      exact KS.ext e d eb5
    refine wpAny_execs_nil (wpAny_execs_cons (wpAny_Return_some (wL F5 e2 ?_)))
    exact hQ _ _ _ F5.kp (stab _ _ _ _ ji ks5)
end
end Mine
end PartM11
section PartKB
open PySem PySem.W PyProof.Rows PySem.Calls
set_option Elab.async false
set_option maxRecDepth 100000
namespace Mine
/-- what is looked up in the class K -/
structure KFr (p : Nat) (K : Frag) : Prop where
  make : makesIn K (p + 136) = true
  ini : findIn K (.ref (p + 136)) "__init__" = some (some (.ref (p + 92)))
  inf : typeIn K (.ref (p + 92)) = some (.type "function")
  pg : plainGet K (p + 136) "obj" = true
  ic : isClsIn K (p + 136) = true
  fo : findIn K (.ref (p + 136)) "obj" = some (some (.ref (p + 137)))
  sg : specialIn K (.ref (p + 137)) "__get__" = some (some (.builtin "member_descriptor.__get__"))
  ts : takesIn K (.ref (p + 137)) = some true
  si : slotIn K (p + 137) (p + 136) = some 0
  sa : findIn K (.ref (p + 136)) "__setattr__" = some (some (.builtin "object.__setattr__"))
  po : plainOver K (p + 136) = true
  ti : takerIn K (p + 136) "obj" = some (some (.ref (p + 137)))
  tT : typeIn K (.ref (p + 137)) = some (.type "member_descriptor")
  lt : findIn K (.ref (p + 136)) "__lt__" = some (some (.ref (p + 100)))
  lf : isFn K (.ref (p + 100)) = true
theorem nsIn_at {K : Frag} {a : Addr} {o : Obj} {name : Str} (h : K.lookup a = some o) : nsIn K a name = nsIn [(0, o)] 0 name := by
  unfold nsIn
  rw [h]
  rfl
theorem fb_call : fastLookup "type" "__call__" = some (some (.builtin "type.__call__")) := by kernel_rfl
theorem fb_ga : fastBuiltinOwn "object" "__getattribute__" = some (.builtin "object.__getattribute__") := by kernel_rfl
theorem fb_gt : fastBuiltinOwn "object" "__getattr__" = none := by kernel_rfl
theorem fb_sa : fastBuiltinOwn "object" "__setattr__" = some (.builtin "object.__setattr__") := by kernel_rfl
theorem fb_mg : fastLookup "member_descriptor" "__get__" = some (some (.builtin "member_descriptor.__get__")) := by kernel_rfl
theorem fb_ms : (fastLookup "member_descriptor" "__set__").map (·.isSome) = some true := by kernel_rfl
theorem fb_ty : (fastBuiltinMro "type").map (·.contains (.type "type")) = some true := by kernel_rfl
theorem KEnd.frag {w : World} {p : Nat} {l : Addr} {h : Heap} (x : KEnd w p l h) : ∃ K : Frag, K.In h ∧ KFr p K := by
  obtain ⟨⟨cd, sl, c0, c1, c2, c3, c4, c5, c6, c7⟩, ⟨oN, n0, n1, n2, n3, n4, n5, n6⟩, ⟨n, t, t', d0⟩, ⟨in1, in2, in3, in4, i0, _⟩, ⟨ln1, ln2, ln3, ln4, l0, _⟩, _⟩ := x
  generalize eI : (⟨.type "function", none, .func _, #[]⟩ : Obj) = oI at i0
  generalize eL : (⟨.type "function", none, .func _, #[]⟩ : Obj) = oL at l0
  have cI : oI.cls = .type "function" := by rw [← eI]
  have cL : oL.cls = .type "function" := by rw [← eL]
  clear eI eL
  generalize hC : (⟨.type "type", none, .cls cd, sl⟩ : Obj) = oC at c0
  generalize hD : (⟨.type "member_descriptor", none, .fields #[.str n t, .ref (p + 136), .builtin "proto.slot", .builtin "proto.slot#set", .int 0 t'], #[]⟩ : Obj) = oD at d0
  refine ⟨[(p + 136, oC), (p + 135, oN), (p + 137, oD), (p + 92, oI), (p + 100, oL)], ?_, ?_⟩
  · refine Frag.in_of (as := [p + 136, p + 135, p + 137, p + 92, p + 100]) rfl ?_
    simp only [List.map_cons, List.map_nil, c0, n0, d0, i0, l0]
  generalize hK : ([(p + 136, oC), (p + 135, oN), (p + 137, oD), (p + 92, oI), (p + 100, oL)] : Frag) = K
  have k1 : K.lookup (p + 136) = some oC := by rw [← hK]; simp [List.lookup]
  have k2 : K.lookup (p + 135) = some oN := by
    rw [← hK]
    simp only [List.lookup_cons]
    rw [show (p + 135 == p + 136) = false by simp]
    simp
  have k3 : K.lookup (p + 137) = some oD := by
    rw [← hK]
    simp only [List.lookup_cons]
    rw [show (p + 137 == p + 136) = false by simp, show (p + 137 == p + 135) = false by simp]
    simp
  have k4 : K.lookup (p + 92) = some oI := by
    rw [← hK]
    simp only [List.lookup_cons]
    rw [show (p + 92 == p + 136) = false by simp, show (p + 92 == p + 135) = false by simp, show (p + 92 == p + 137) = false by simp]
    simp
  have k5 : K.lookup (p + 100) = some oL := by
    rw [← hK]
    simp only [List.lookup_cons]
    rw [show (p + 100 == p + 136) = false by simp, show (p + 100 == p + 135) = false by simp, show (p + 100 == p + 137) = false by simp, show (p + 100 == p + 92) = false by simp]
    simp
  have ec : clsIn K (p + 136) = some cd := by unfold clsIn; rw [k1, ← hC]
  have fi : ∀ name, findIn K (.ref (p + 136)) name = match nsIn [(0, oN)] 0 name with
      | some (some v) => some (some v)
      | some none => some (fastBuiltinOwn "object" name)
      | none => none := by
    intro name
    have e1 : findIn K (.ref (p + 136)) name = alongIn K name cd.mro := by
      show (match K.lookup (p + 136) with
        | some ⟨_, _, .cls cd, _⟩ => alongIn K name cd.mro
        | _ => none) = _
      rw [k1, ← hC]
    have e2 : ownIn K name (.ref (p + 136)) = nsIn [(0, oN)] 0 name := by
      show (match K.lookup (p + 136) with
        | some ⟨_, _, .cls cd, _⟩ => nsIn K cd.ns name
        | _ => none) = _
      rw [k1, ← hC]
      show nsIn K cd.ns name = _
      rw [c2, nsIn_at k2]
    rw [e1, c1]
    show (match ownIn K name (.ref (p + 136)) with
      | some (some v) => some (some v)
      | some none => alongIn K name [.type "object"]
      | none => none) = _
    rw [e2]
    have e3 : alongIn K name [.type "object"] = some (fastBuiltinOwn "object" name) := by
      show (match (some (fastBuiltinOwn "object" name) : Option (Option Value)) with
        | some (some v) => some (some v)
        | some none => alongIn K name []
        | none => none) = _
      cases fastBuiltinOwn "object" name <;> rfl
    rw [e3]
  have tC : typeIn K (.ref (p + 136)) = some (.type "type") := by show (K.lookup (p + 136)).map (·.cls) = _; rw [k1, ← hC]; rfl
  have tD : typeIn K (.ref (p + 137)) = some (.type "member_descriptor") := by show (K.lookup (p + 137)).map (·.cls) = _; rw [k3, ← hD]; rfl
  have sS : ∀ name, specialIn K (.ref (p + 137)) name = fastLookup "member_descriptor" name := fun name => by
    unfold specialIn; rw [tD]; rfl
  have tk : takesIn K (.ref (p + 137)) = some true := by
    unfold takesIn
    rw [sS]
    have := fb_ms
    cases e : fastLookup "member_descriptor" "__set__" with
    | none => rw [e] at this; cases this
    | some z =>
      cases z with
      | none => rw [e] at this; cases this
      | some _ => rfl
  refine ⟨?_, ?_, ?_, ?_, ?_, ?_, ?_, tk, ?_, ?_, ?_, ?_, tD, ?_, ?_⟩
  · unfold makesIn
    rw [k1, ← hC]
    show (!cd.abstract && !cd.hasDel && (sl.toList[4]?).join == some (.builtin "object.__new__") && !cd.mro.isEmpty && cd.mro.contains (.ref (p + 136)) && cd.mro.contains (.type "object") &&
      specialIn K (.ref (p + 136)) "__call__" == some (some (.builtin "type.__call__")) && instIn K (.ref (p + 136)) (.type "type") == some true) = true
    have e1 : specialIn K (.ref (p + 136)) "__call__" = some (some (.builtin "type.__call__")) := by
      unfold specialIn; rw [tC]; exact fb_call
    have e2 : instIn K (.ref (p + 136)) (.type "type") = some true := by
      unfold instIn; rw [tC]; exact fb_ty
    rw [c5, c6, c7, c1, e1, e2]
    simp
  · rw [fi, n1]
  · show (K.lookup (p + 92)).map (·.cls) = _; rw [k4]; exact congrArg some cI
  · unfold plainGet
    rw [fi, fi, n4, n5, fb_ga, fb_gt]
    simp
  · unfold isClsIn; rw [ec]; rfl
  · rw [fi, n3]
  · rw [sS]; exact fb_mg
  · have er : recIn K (p + 137) "member_descriptor" = some [.str n t, .ref (p + 136), .builtin "proto.slot", .builtin "proto.slot#set", .int 0 t'] := by
      unfold recIn; rw [k3, ← hD]; rfl
    unfold slotIn
    rw [er, ec]
    show (if _ then _ else _) = _
    rw [c4, c1]
    simp
  · rw [fi, n6, fb_sa]
  · unfold plainOver
    rw [ec]
    show onlyObject cd.mro = true
    rw [c1]
    rfl
  · unfold takerIn
    rw [fi, n3]
    show (takesIn K (.ref (p + 137))).map _ = _
    rw [tk]
    rfl
  · rw [fi, n2]
  · unfold isFn
    have : typeIn K (.ref (p + 100)) = some (.type "function") := by show (K.lookup (p + 100)).map (·.cls) = _; rw [k5]; exact congrArg some cL
    rw [this]
    simp
end Mine
end PartKB
section PartKC0
open PySem PySem.W PyProof.Rows PySem.Calls
set_option Elab.async false
set_option maxRecDepth 100000
namespace Mine
theorem ks2_names (w : World) : (scoOf (kStm w 2)).names = [(Str.ofString "self", NameKind.local), (Str.ofString "obj", NameKind.local)] := rfl
theorem ks2_cell (w : World) : ∀ x ∈ (scoOf (kStm w 2)).names, x.2 ≠ .cell := by rw [ks2_names]; decide
theorem ks2_prm (w : World) : ∃ p1 p2, prmOf (kStm w 2) = { posonlyargs := [], args := [{ arg := "self", annotation := none, pos := p1 }, { arg := "obj", annotation := none, pos := p2 }], vararg := none, kwonlyargs := [], kw_defaults := [], kwarg := none, defaults := [] } := ⟨_, _, rfl⟩
theorem ks2_bind {w : World} {n q : Str} {a b c : Value} {x y : Value} : bindArgs (fnX n q (prmOf (kStm w 2)) (bodOf (kStm w 2)) (scoOf (kStm w 2)) [] .none .none .none a none b c) ⟨[x, y], []⟩ = pure [(Str.ofString "self", x), (Str.ofString "obj", y)] := by
  obtain ⟨p1, p2, e⟩ := ks2_prm w
  rw [e]
  generalize bodOf (kStm w 2) = bb
  generalize scoOf (kStm w 2) = ss
  rfl
theorem ks2_body (w : World) : ∃ p1 p2 p3 p4, bodOf (kStm w 2) = [.Assign [.Attribute (.Name "self" p1) "obj" p2] (.Name "obj" p3) p4] := ⟨_, _, _, _, rfl⟩
theorem ks3_names (w : World) : (scoOf (kStm w 3)).names = [(Str.ofString "self", NameKind.local), (Str.ofString "other", NameKind.local), (Str.ofString "mycmp", NameKind.free)] := rfl
theorem ks3_cell (w : World) : ∀ x ∈ (scoOf (kStm w 3)).names, x.2 ≠ .cell := by rw [ks3_names]; decide
theorem ks3_prm (w : World) : ∃ p1 p2, prmOf (kStm w 3) = { posonlyargs := [], args := [{ arg := "self", annotation := none, pos := p1 }, { arg := "other", annotation := none, pos := p2 }], vararg := none, kwonlyargs := [], kw_defaults := [], kwarg := none, defaults := [] } := ⟨_, _, rfl⟩
theorem ks3_bind {w : World} {n q : Str} {cl : List (Str × Addr)} {a b c : Value} {x y : Value} : bindArgs (fnX n q (prmOf (kStm w 3)) (bodOf (kStm w 3)) (scoOf (kStm w 3)) cl .none .none .none a none b c) ⟨[x, y], []⟩ = pure [(Str.ofString "self", x), (Str.ofString "other", y)] := by
  obtain ⟨p1, p2, e⟩ := ks3_prm w
  rw [e]
  generalize bodOf (kStm w 3) = bb
  generalize scoOf (kStm w 3) = ss
  rfl
theorem ks3_body (w : World) : ∃ p1 p2 p3 p4 p5 p6 p7 p8 p9, bodOf (kStm w 3) = [.Return (some (.Compare (.Call (.Name "mycmp" p1) [.Attribute (.Name "self" p2) "obj" p3, .Attribute (.Name "other" p4) "obj" p5] [] p6) [.Lt] [.Constant (.int 0) 0 p7] p8)) p9] := ⟨_, _, _, _, _, _, _, _, _, rfl⟩
theorem ks2_kind (w : World) : (scoOf (kStm w 2)).kind = .function := rfl
theorem ks3_kind (w : World) : (scoOf (kStm w 3)).kind = .function := rfl
theorem ks2_co (w : World) : (scoOf (kStm w 2)).isCoroutine = false := rfl
theorem ks3_co (w : World) : (scoOf (kStm w 3)).isCoroutine = false := rfl
theorem ks2_gen (w : World) : (scoOf (kStm w 2)).isGenerator = false := rfl
theorem ks3_gen (w : World) : (scoOf (kStm w 3)).isGenerator = false := rfl
end Mine
end PartKC0
section PartKC
open PySem PySem.W PyProof.Rows PySem.Calls
set_option Elab.async false
set_option maxRecDepth 100000
namespace Mine
/-- an instance of K that holds v -/
def KI (lo : Addr) (p : Nat) (h : Heap) (a : Addr) (v : Value) : Prop := ∃ dx od, lo < dx ∧ h.get? a = some ⟨.ref (p + 136), some dx, .plain, #[some v]⟩ ∧ h.get? dx = some od ∧ dictAt od = true
theorem plain_hard {N : Nat} {b : Addr} {o : Obj} (hd : o.data = .plain) : ¬ soft N b o := fun q => by
  have := q.2; unfold dictAt at this; rw [hd] at this; cases this
theorem KI.kp {N p : Nat} {lo : Addr} {h h' : Heap} {a : Addr} {v : Value} (x : KI lo p h a v) (k : Kp N h h') : KI lo p h' a v := by
  obtain ⟨dx, od, h0, h1, h2, h3⟩ := x
  obtain ⟨sl, e, _⟩ := k _ _ h2
  exact ⟨dx, _, h0, k.hard h1 (plain_hard rfl), e, h3⟩
theorem nsIn_slots {o : Obj} {sl : Array (Option Value)} {name : Str} : nsIn [(0, { o with slots := sl })] 0 name = nsIn [(0, o)] 0 name := by
  obtain ⟨c, d, dt, s⟩ := o
  cases dt <;> rfl
theorem func_hard {N : Nat} {b : Addr} {o : Obj} {fd : FuncData} (hd : o.data = .func fd) : ¬ soft N b o := fun q => by
  have := q.2; unfold dictAt at this; rw [hd] at this; cases this
theorem fields_hard {N : Nat} {b : Addr} {o : Obj} {vs : Array Value} (hd : o.data = .fields vs) : ¬ soft N b o := fun q => by
  have := q.2; unfold dictAt at this; rw [hd] at this; cases this
theorem codeRec_kp {N : Nat} {h h' : Heap} {cd : Value} {q : Str} (x : h.CodeRec cd q) (k : Kp N h h') : h'.CodeRec cd q := by
  obtain ⟨c, o, vs, t, e, ho, hd, hv⟩ := x
  exact ⟨c, o, vs, t, e, k.hard ho (fields_hard hd), hd, hv⟩
theorem KEnd.kp {w : World} {N p : Nat} {l : Addr} {h h' : Heap} (x : KEnd w p l h) (k : Kp N h h') : KEnd w p l h' := by
  obtain ⟨⟨cd, sl, c0, c1⟩, ⟨oN, n0, n1, n2, n3, n4, n5, n6⟩, ⟨n, t, t', d0⟩, ⟨in1, in2, in3, in4, i0, i1⟩, ⟨ln1, ln2, ln3, ln4, l0, l1⟩, ce⟩ := x
  obtain ⟨sN, eN, _⟩ := k _ _ n0
  refine ⟨⟨cd, sl, k.hard c0 (fun q => by have := q.2; cases this), c1⟩, ⟨_, eN, ?_, ?_, ?_, ?_, ?_, ?_⟩, ⟨n, t, t', k.hard d0 (fields_hard rfl)⟩, ⟨in1, in2, in3, in4, k.hard i0 (func_hard rfl), codeRec_kp i1 k⟩,
    ⟨ln1, ln2, ln3, ln4, k.hard l0 (func_hard rfl), codeRec_kp l1 k⟩, k.hard ce (fun q => by have := q.2; cases this)⟩
  all_goals rw [nsIn_slots]; assumption
theorem get_hide {h : Heap} {a b : Addr} {o : Obj} (e : h.get? b = some o) (n : b ≠ a) : (h.hide a).get? b = some o := (Heap.hide_ne h n).trans e
section
variable {M : Model} {A : Around} {E : Value → Shared → Prop} {s : Shared} {h : Heap} {tk : Nat} {m : Str → Option Value}
theorem wLe {env : Env} {x : Str} {pos : Pos} {v : Value} {Q : Value → Shared → Prop} (hn : h.Ns env.locals m) (hv : m x = some v) (q : Q v (St s h tk)) (hk : env.scope.kind = .function := by rfl) (hl : env.kindOf x = some .local := by rfl)
    (hd : (x == ("__debug__" : Str)) = false := by decide) : wpAny M A (eval (.Name x pos) env) Q E (St s h tk) := wpAny_Name (wpAny_loadName_local (s := St s h tk) hk hl hn hv q) hd
end
section
variable {w : World} {A : Around} {E : Value → Shared → Prop} {s : Shared} {Q : Value → Shared → Prop} {mean : ExcName → Option Value} {mg mb : Str → Option Value} {N p : Nat} {l : Addr}
theorem frag_ne {K : Frag} {h : Heap} {a : Addr} (X : K.In h) (ha : h.get? a = none) {h' : Heap} (k : ∀ b o, h.get? b = some o → h'.get? b = some o) : K.In (h'.hide a) := fun b o e => by
  have e1 := X b o e
  exact get_hide (k b o e1) fun z => by rw [z, ha] at e1; cases e1
set_option maxHeartbeats 4000000 in
/-- K(v) -/
theorem kNew {lo : Addr} (hlo : lo < s.heap.objs.size) (e : KEnd w p l s.heap) (g : G w mean mg mb N s.heap) (hd : A.depth + 1 < recursionLimit) {v : Value}
    (hQ : ∀ a h' tk, Kp N s.heap h' → s.heap.get? a = none → KI lo p h' a v → Q (.ref a) (St s h' tk)) :
    wpAny (model prg w) A (call (.ref (p + 136)) [v]) Q E s := by
  obtain ⟨K, X, kf⟩ := e.frag
  obtain ⟨in1, in2, in3, in4, i0, i1⟩ := e.init
  refine wpAny_call ?_
  obtain ⟨hh, gs, dr, t, os⟩ := s
  refine make_core (makes_of X kf.make) (looks_findIn X kf.ini) (fun self => bind_fn X self kf.inf) (.inl rfl) ?_
  generalize hg1 : (hh.push emptyDict).push (instObj (p + 136) hh.objs.size) = g1
  have k01 : ∀ b o, hh.get? b = some o → g1.get? b = some o := fun b o e => by
    rw [← hg1]; exact Heap.get?_push_of_some _ (Heap.get?_push_of_some _ e)
  have ha0 : hh.get? (hh.objs.size + 1) = none := Heap.get?_none_of_le (by omega)
  have hx1 : g1.get? (hh.objs.size + 1) = some (instObj (p + 136) hh.objs.size) := by rw [← hg1]; heap_get
  have hd1 : g1.get? hh.objs.size = some emptyDict := by rw [← hg1]; heap_get
  have hL : hh.objs.size + 1 < g1.objs.size := Heap.lt_size hx1
  generalize hh.objs.size + 1 = a at ha0 hx1 hL ⊢
  have nm := ks2_names w
  have cl := ks2_cell w
  have kd := ks2_kind w
  have co := ks2_co w
  have ge := ks2_gen w
  have bi := ks2_bind (w := w) (n := in1) (q := in2) (a := in3) (b := .ref (p + 91)) (c := in4) (x := .ref a) (y := v)
  obtain ⟨p1, p2, p3, p4, bd⟩ := ks2_body w
  rw [bd] at i0 bi
  generalize prmOf (kStm w 2) = pr at *
  generalize scoOf (kStm w 2) = sc at *
  have l1 : sc.names.lookup (Str.ofString "self") = some .local := by rw [nm]; rfl
  have l2 : sc.names.lookup (Str.ofString "obj") = some .local := by rw [nm]; rfl
  refine codeAny_call_def (s := ⟨g1, gs, dr, t, os⟩) (binds := [("self", .ref a), ("obj", v)]) (by show A.depth + 1 < _; exact hd) (k01 _ _ i0) rfl (g.T.nolimit.keeps k01) (i1.keeps k01) rfl (BindsTo.of_eq bi) cl (fun x hx => ?_) (fun h1 ns1 k1 => ?_) co ge kd
  · rcases List.mem_cons.mp hx with rfl | hx
    · exact l1
    · rcases List.mem_cons.mp hx with rfl | hx
      · exact l2
      · cases hx
  refine wpAny_mono ?_ (fun _ _ x => x) (fun _ _ (x : False) => x.elim)
  show wpAny _ _ _ _ _ (St ⟨hh, gs, dr, t, os⟩ h1 _)
  refine wpAny_execs_cons (plainObj_wpAny_Assign_Attribute (wLe ns1 rfl (wLe ns1 rfl ?_ kd l1) kd l2) (by rfl))
  have F1 : Fr (g1.hide a) g1.objs.size h1 (fun x => ([("self", .ref a), ("obj", v)] : List (Str × Value)).reverse.lookup x) := ⟨ns1, fun b o e => k1 b o (Heap.of_hide e), by rw [Heap.hide_size]; exact Nat.le_refl _⟩
  have X1 : K.In (g1.hide a) := frag_ne X ha0 k01
  have N1 : News (g1.hide a) g1.objs.size h1 [(a, instObj (p + 136) hh.objs.size)] := fun q hq => by
    rcases List.mem_cons.mp hq with rfl | hq
    · exact ⟨k1 _ _ hx1, Nat.ne_of_lt hL, Heap.hide_self _ _⟩
    · cases hq
  have I1 : InstAt h1 a (instObj (p + 136) hh.objs.size) (p + 136) (some emptyDict) := ⟨k1 _ _ hx1, rfl, rfl, k1 _ _ hd1⟩
  refine set_slot (s := St ⟨hh, gs, dr, t, os⟩ h1 _) (v := v) F1 X1 N1 I1 kf.sa kf.po kf.ti kf.tT kf.si (by omega) rfl rfl (Upd.head (by simp)) fun h2 F2 N2 => wpAny_execs_nil ?_
  have keep2 : ∀ b o, hh.get? b = some o → h2.get? b = some o := fun b o e => F2.keep b o (get_hide (k01 b o e) fun z => by rw [z, ha0] at e; cases e)
  refine ⟨rfl, ?_⟩
  refine hQ a h2 _ (Kp.strict keep2) ha0 ⟨hh.objs.size, emptyDict, hlo, (N2 _ (.head _)).1, F2.keep _ _ (get_hide hd1 fun z => ?_), rfl⟩
  rw [z] at hd1
  rw [hd1] at hx1
  cases hx1
end
end Mine
end PartKC
section PartKD
open PySem PySem.W PyProof.Rows PySem.Calls
set_option Elab.async false
set_option maxRecDepth 100000
namespace Mine
section
variable {w : World} {A : Around} {E : Value → Shared → Prop} {s : Shared} {Q : Value → Shared → Prop} {mean : ExcName → Option Value} {mg mb : Str → Option Value} {N p : Nat} {l : Addr}
theorem KI.at {lo : Addr} {h : Heap} {a : Addr} {v : Value} (x : KI lo p h a v) : ∃ ox od, InstAt h a ox (p + 136) (some od) ∧ (ox.slots[0]?).join = some v := by
  obtain ⟨dx, od, _, h1, h2, _⟩ := x
  exact ⟨_, od, ⟨h1, rfl, rfl, h2⟩, rfl⟩
set_option maxHeartbeats 4000000 in
/-- K.__lt__ -/
theorem kLt {lo : Addr} {a b : Addr} {x y : Int} {t u : Tok} {c : Int} {ol : Obj} {fdl : FuncData} (e : KEnd w p l s.heap) (g : G w mean mg mb N s.heap) (hd : A.depth < recursionLimit) (hh : A.handled = none)
    (ha : KI lo p s.heap a (.int x t)) (hb : KI lo p s.heap b (.int y u)) (hlo : s.heap.get? l = some ol) (hld : ol.data = .func fdl)
    (lam : ∀ (A' : Around) (E' : Value → Shared → Prop) h tk (K : Value → Shared → Prop), A'.depth = A.depth + 1 → A'.units = A.units + 3 → A'.handled = none → Kp N s.heap h → G w mean mg mb N h →
      (∀ t' h' tk', Kp N h h' → K (.int c t') (St s h' tk')) → wpAny (model prg w) A' (call (.ref l) [.int x t, .int y u]) K E' (St s h tk))
    (hQ : ∀ h' tk, Kp N s.heap h' → Q (.bool (decide (c < 0))) (St s h' tk)) :
    wpAny (model prg w) A (call (.ref (p + 100)) [.ref a, .ref b]) Q E s := by
  obtain ⟨K, X, kf⟩ := e.frag
  obtain ⟨in1, in2, in3, in4, i0, i1⟩ := e.less
  have ce := e.cell
  refine wpAny_call ?_
  have nm := ks3_names w
  have cl := ks3_cell w
  have kd := ks3_kind w
  have co := ks3_co w
  have ge := ks3_gen w
  have bi := ks3_bind (w := w) (n := in1) (q := in2) (cl := [("mycmp", p + 77)]) (a := in3) (b := .ref (p + 99)) (c := in4) (x := .ref a) (y := .ref b)
  obtain ⟨p1, p2, p3, p4, p5, p6, p7, p8, p9, bd⟩ := ks3_body w
  rw [bd] at i0 bi
  generalize prmOf (kStm w 3) = pr at *
  generalize scoOf (kStm w 3) = sc at *
  have l1 : sc.names.lookup (Str.ofString "self") = some .local := by rw [nm]; rfl
  have l2 : sc.names.lookup (Str.ofString "other") = some .local := by rw [nm]; rfl
  have l3 : sc.names.lookup (Str.ofString "mycmp") = some .free := by rw [nm]; rfl
  refine codeAny_call_def (binds := [("self", .ref a), ("other", .ref b)]) hd i0 rfl g.T.nolimit i1 rfl (BindsTo.of_eq bi) cl (fun x hx => ?_) (fun h1 ns1 k1 => ?_) co ge kd
  · rcases List.mem_cons.mp hx with rfl | hx
    · exact l1
    · rcases List.mem_cons.mp hx with rfl | hx
      · exact l2
      · cases hx
  refine wpAny_mono ?_ (fun _ _ x => x) (fun _ _ (x : False) => x.elim)
  show wpAny _ _ _ _ _ (St s h1 _)
  have kp1 : Kp N s.heap h1 := Kp.strict k1
  have F1 : Fr s.heap s.heap.objs.size h1 (fun x => ([("self", .ref a), ("other", .ref b)] : List (Str × Value)).reverse.lookup x) := ⟨ns1, k1, Nat.le_refl _⟩
  have g1 : G w mean mg mb N h1 := g.of kp1 (Nat.le_trans g.low (Nat.le_of_lt ns1.lt))
  obtain ⟨oa, da, Ia, sa⟩ := (ha.kp kp1).at
  obtain ⟨ob, db, Ib, sb⟩ := (hb.kp kp1).at
  refine wpAny_execs_cons (wpAny_Return_some (wpAny_Compare1 (cN ?_)))
  refine wpAny_Name (wpAny_loadName_free (s := St s h1 _) kd l3 (c := p + 77) (v := .ref l) rfl ⟨_, k1 _ _ ce, rfl⟩ ?_) (by decide)
  refine cwF hld (evs_cons (Attribute_name (wLe ns1 rfl ?_ kd l1)))
  refine get_slot (s := St s h1 _) F1 X Ia kf.pg kf.ic kf.fo kf.sg kf.ts kf.si sa rfl ?_
  show wpAny _ _ _ _ _ (St s h1 _)
  refine evs_cons (Attribute_name (wLe ns1 rfl ?_ kd l2))
  refine get_slot (s := St s h1 _) F1 X Ib kf.pg kf.ic kf.fo kf.sg kf.ts kf.si sb rfl ?_
  show wpAny _ _ _ _ _ (St s h1 _)
  refine evs_nil ⟨k1 _ _ hlo, ?_⟩
  refine lam _ _ h1 _ _ rfl rfl hh kp1 g1 fun t' h2 tk2 k2 => ?_
  refine wCI fun u3 tk3 => PyProof.Rows.lt_int ?_
  exact hQ h2 tk3 (kp1.trans k2)
end
end Mine
end PartKD
section PartLM
open PySem PySem.W PyProof.Rows PySem.Calls
set_option Elab.async false
set_option maxRecDepth 100000
namespace Mine
def valOf : Stmt → Expr
  | .Assign _ v _ => v
  | .Return (some e) _ => e
  | _ => .Constant .none 0 ⟨0, 0, 0, 0⟩
def argOf : Expr → Nat → Expr
  | .Call _ as _ _, i => as.getD i (.Constant .none 0 ⟨0, 0, 0, 0⟩)
  | _, _ => .Constant .none 0 ⟨0, 0, 0, 0⟩
def kwOf : Expr → Expr
  | .Call _ _ (k :: _) _ => k.value
  | _ => .Constant .none 0 ⟨0, 0, 0, 0⟩
def cmpOf : Expr → Expr
  | .Compare _ _ (r :: _) _ => r
  | _ => .Constant .none 0 ⟨0, 0, 0, 0⟩
def lamP : Expr → Arguments
  | .Lambda a .. => a
  | _ => { posonlyargs := [], args := [], vararg := none, kwonlyargs := [], kw_defaults := [], kwarg := none, defaults := [] }
def lamB : Expr → Expr
  | .Lambda _ b .. => b
  | e => e
def lamS : Expr → Scope
  | .Lambda _ _ s _ => s
  | _ => { kind := .module, names := [], isGenerator := false, isCoroutine := false }
/-- the body of law -/
noncomputable def lawB (w : World) : List Stmt := bodyOf ((hd.heap_39 w.params).lookup 75)
noncomputable def lam1 (w : World) : Expr := argOf (valOf ((lawB w).getD 1 (.Pass ⟨0, 0, 0, 0⟩))) 0
noncomputable def lam2 (w : World) : Expr := argOf (valOf ((lawB w).getD 2 (.Pass ⟨0, 0, 0, 0⟩))) 0
noncomputable def lam3 (w : World) : Expr := kwOf (cmpOf (valOf ((lawB w).getD 7 (.Pass ⟨0, 0, 0, 0⟩))))
/-- a function that a lambda has made -/
def LamAt (e : Expr) (h : Heap) (l : Addr) : Prop := ∃ name qual pm c ct, h.get? l = some (kla_obj name qual (lamP e) (lamB e) (lamS e) [] pm c ct) ∧ h.CodeRec (.ref c) qual
theorem LamAt.kp {N : Nat} {e : Expr} {h h' : Heap} {l : Addr} (x : LamAt e h l) (k : Kp N h h') : LamAt e h' l := by
  obtain ⟨n, q, pm, c, ct, h1, h2⟩ := x
  exact ⟨n, q, pm, c, ct, k.hard h1 (func_hard rfl), codeRec_kp h2 k⟩
theorem LamAt.fn {e : Expr} {h : Heap} {l : Addr} (x : LamAt e h l) : ∃ o fd, h.get? l = some o ∧ o.data = .func fd := by
  obtain ⟨n, q, pm, c, ct, h1, h2⟩ := x
  exact ⟨_, _, h1, rfl⟩
section
variable {w : World} {A : Around} {E : Value → Shared → Prop} {s : Shared} {Q : Value → Shared → Prop} {mean : ExcName → Option Value} {mg mb : Str → Option Value} {N : Nat} {l : Addr}
/-- a lambda called -/
theorem callLam {R : Result → Shared → Prop} {name qual : Str} {params : Arguments} {body : Expr} {scope : Scope} {pm ct : Value} {c : Addr} {args : List Value} {binds : List (Str × Value)}
    (ho : s.heap.get? l = some (kla_obj name qual params body scope [] pm c ct)) (hcd : s.heap.CodeRec (.ref c) qual) (g : G w mean mg mb N s.heap) (hd : A.depth < recursionLimit)
    (hb : bindArgs (kla_fn name qual params body scope [] pm (.ref c) ct) ⟨args, []⟩ = pure binds) (hloc : ∀ y ∈ binds, scope.names.lookup y.1 = some .local)
    (h : ∀ h₁, Fm N s.heap s.heap.objs.size h₁ (fun y => binds.reverse.lookup y) →
      wpAny (model prg w) (A.deeper (envOf qual scope s.heap.objs.size l (.ref c))) (eval body (envOf qual scope s.heap.objs.size l (.ref c))) (fun v s' => R (.ok (.ret v)) s') (fun _ _ => False) (St s h₁ (s.toks + binds.length)))
    (hco : scope.isCoroutine = false) (hgen : scope.isGenerator = false) (hk : scope.kind = .function) (hcell : ∀ x ∈ scope.names, x.2 ≠ .cell) :
    codeAny (model prg w) A (.call (.ref l) ⟨args, []⟩) R s := by
  refine kla_callFunE hd ho rfl hco hgen rfl hcd ?_
  rw [hb]
  refine wpAny_pure (wpAny_newFunctionEnv hcell hloc (fun h₁ hns hsb => ⟨g.T.nolimit.fresh _ hsb, ?_⟩) hk)
  show codeAny _ _ (.expr body (envOf qual scope s.heap.objs.size l (.ref c))) _ _
  have hk₁ : ∀ b o, s.heap.get? b = some o → h₁.get? b = some o := fun b o e => hsb.extBut b o (Nat.ne_of_lt (Heap.lt_size e)) (Heap.get?_push_of_some _ e)
  exact kla_codeExpr (wpAny_mono (h h₁ (Fm.enter ⟨hns, hk₁, Nat.le_refl _⟩ g.low)) (fun v s' hl => hl) fun _ _ (y : False) => y.elim)
theorem lam1_p (w : World) : ∃ p1 p2, lamP (lam1 w) = { posonlyargs := [], args := [{ arg := "n", annotation := none, pos := p1 }, { arg := "d", annotation := none, pos := p2 }], vararg := none, kwonlyargs := [], kw_defaults := [], kwarg := none, defaults := [] } := ⟨_, _, rfl⟩
theorem lam1_b (w : World) : ∃ p1 p2 p3 p4 p5, lamB (lam1 w) = .BinOp (.BinOp (.Constant (.int 16) 0 p1) .Mult (.Name "n" p2) p3) .Add (.Name "d" p4) p5 := ⟨_, _, _, _, _, rfl⟩
theorem lam1_s (w : World) : lamS (lam1 w) = { kind := .function, names := [(Str.ofString "n", .local), (Str.ofString "d", .local)], isGenerator := false, isCoroutine := false } := rfl
theorem lam2_p (w : World) : ∃ p1 p2, lamP (lam2 w) = { posonlyargs := [], args := [{ arg := "a", annotation := none, pos := p1 }, { arg := "b", annotation := none, pos := p2 }], vararg := none, kwonlyargs := [], kw_defaults := [], kwarg := none, defaults := [] } := ⟨_, _, rfl⟩
theorem lam2_b (w : World) : ∃ p1 p2 p3 p4 p5 p6 p7 p8 p9 p10 p11 p12, lamB (lam2 w) = .Call (.Name "three_way_cmp" p1) [.Call (.Name "list" p2) [.Call (.Name "Int2AP" p3) [.Name "a" p4] [] p5] [] p6, .Call (.Name "list" p7) [.Call (.Name "Int2AP" p8) [.Name "b" p9] [] p10] [] p11] [] p12 := ⟨_, _, _, _, _, _, _, _, _, _, _, _, rfl⟩
theorem lam2_s (w : World) : lamS (lam2 w) = { kind := .function, names := [(Str.ofString "a", .local), (Str.ofString "b", .local), (Str.ofString "three_way_cmp", .globalImplicit), (Str.ofString "list", .globalImplicit), (Str.ofString "Int2AP", .globalImplicit)], isGenerator := false, isCoroutine := false } := rfl
theorem lam3_p (w : World) : ∃ p1, lamP (lam3 w) = { posonlyargs := [], args := [{ arg := "part", annotation := none, pos := p1 }], vararg := none, kwonlyargs := [], kw_defaults := [], kwarg := none, defaults := [] } := ⟨_, rfl⟩
theorem lam3_b (w : World) : ∃ p1 p2 p3 p4, lamB (lam3 w) = .BinOp (.Name "part" p1) .Add (.List [.Constant (.int 90) 0 p2] p3) p4 := ⟨_, _, _, _, rfl⟩
theorem lam3_s (w : World) : lamS (lam3 w) = { kind := .function, names := [(Str.ofString "part", .local)], isGenerator := false, isCoroutine := false } := rfl
set_option maxHeartbeats 4000000 in
/-- lambda n, d: 16 * n + d -/
theorem lamMul {n d : Int} {t u : Tok} (x : LamAt (lam1 w) s.heap l) (g : G w mean mg mb N s.heap) (hd : A.depth < recursionLimit)
    (hQ : ∀ t h' tk, Kp N s.heap h' → Q (.int (16 * n + d) t) (St s h' tk)) : wpAny (model prg w) A (call (.ref l) [.int n t, .int d u]) Q E s := by
  obtain ⟨nm, q, pm, c, ct, h1, h2⟩ := x
  obtain ⟨a1, a2, ep⟩ := lam1_p w
  obtain ⟨p1, p2, p3, p4, p5, eb⟩ := lam1_b w
  rw [ep, eb, lam1_s] at h1
  refine wpAny_call ?_
  refine callLam (binds := [("n", .int n t), ("d", .int d u)]) h1 h2 g hd rfl (locs rfl) (fun h₁ F => ?_) rfl rfl rfl (by decide)
  refine wpAny_BinOp (wpAny_BinOp (wCI fun _ tk1 => wL F rfl ?_))
  refine PyProof.Rows.mul_int (s := St s h₁ tk1) ?_ (IntMulOk.of_left (by decide))
  show wpAny _ _ _ _ _ (St s h₁ _)
  refine wL F rfl (wAddI fun v tk2 => ?_)
  exact hQ _ _ _ F.kp
set_option maxHeartbeats 4000000 in
/-- lambda part: part + [90] -/
theorem lamNine {v : Value} {ns : List Int} (x : LamAt (lam3 w) s.heap l) (g : G w mean mg mb N s.heap) (hd : A.depth < recursionLimit) (il : IL s.heap v ns) (hn : ns.length ≤ 1000)
    (hQ : ∀ v' h' tk, Kp N s.heap h' → IL h' v' (ns ++ [90]) → Q v' (St s h' tk)) : wpAny (model prg w) A (call (.ref l) [v]) Q E s := by
  obtain ⟨nm, q, pm, c, ct, h1, h2⟩ := x
  obtain ⟨a1, ep⟩ := lam3_p w
  obtain ⟨p1, p2, p3, p4, eb⟩ := lam3_b w
  rw [ep, eb, lam3_s] at h1
  refine wpAny_call ?_
  refine callLam (binds := [("part", v)]) h1 h2 g hd rfl (locs rfl) (fun h₁ F => ?_) rfl rfl rfl (by decide)
  have il := il.kp F.kp
  obtain ⟨a, vs, rfl, hl, hi⟩ := il
  have hz := hi.length
  refine wpAny_BinOp (wL F rfl (wList (evs_cons (wCI fun t1 tk1 => evs_nil (wNew F (by simp) fun b h2' F2 k2 l2 _ => ?_)))))
  refine wCat F2 (isList_kp hl k2) l2 (by simp; omega) fun c' h3 F3 k3 l3 => ?_
  refine hQ _ _ _ F3.kp ⟨c', _, rfl, l3, ?_⟩
  exact intsAre_append hi (.cons _ _ .nil)
set_option maxHeartbeats 4000000 in
/-- lambda a, b: three_way_cmp(list(Int2AP(a)), list(Int2AP(b))) -/
theorem lamCmp {x y : Int} {t u : Tok} (la : LamAt (lam2 w) s.heap l) (g : G w mean mg mb N s.heap) (hd : A.depth + 1 < recursionLimit) (hu : A.units + 100 < cLine) (hh : A.handled = none) (x0 : 0 ≤ x) (xb : x < 2 ^ 60) (y0 : 0 ≤ y) (yb : y < 2 ^ 60)
    (hQ : ∀ t h' tk, Kp N s.heap h' → Q (.int (cmp3 (lets x.toNat) (lets y.toNat)) t) (St s h' tk)) : wpAny (model prg w) A (call (.ref l) [.int x t, .int y u]) Q E s := by
  obtain ⟨nm, q, pm, c, ct, h1, h2⟩ := la
  obtain ⟨a1, a2, ep⟩ := lam2_p w
  obtain ⟨p1, p2, p3, p4, p5, p6, p7, p8, p9, p10, p11, p12, eb⟩ := lam2_b w
  rw [ep, eb, lam2_s] at h1
  refine wpAny_call ?_
  refine callLam (binds := [("a", .int x t), ("b", .int y u)]) h1 h2 g (by omega) rfl (locs rfl) (fun h₁ F => ?_) rfl rfl rfl (by decide)
  have zx := lets_len16 (n := x.toNat) (by omega)
  have zy := lets_len16 (n := y.toNat) (by omega)
  obtain ⟨o35, ho35, fd35, hd35⟩ : ∃ o, (∀ h, G w mean mg mb N h → h.get? 35 = some o) ∧ ∃ fd, o.data = .func fd := ⟨_, fun h g => g.X 35 _ rfl, _, rfl⟩
  refine cN (wG (v := .ref 35) F g (by kernel_rfl) (cwF hd35 (evs_cons (cN (wB F g (by kernel_rfl) boot_list (cwT (evs_cons (cN (wG F g (by kernel_rfl) (cwF rfl (evs_cons (wL F rfl (evs_nil ⟨(g.fm F).X 21 _ rfl, ?_⟩)))))))))))))
  refine int2ap (s := St s h₁ _) (g.fm F) (by show A.depth + 1 < _; omega) hh x0 xb fun b tb h3 tk3 k3 eb3 => evs_nil ?_
  show wpAny _ _ _ _ _ (St s h3 _)
  have F3 := frK F k3
  refine listB (by exact hh) eb3 (by omega) fun v4 h4 tk4 (k4 : Kp N _ _) il4 => ?_
  have F4 := frK F3 k4
  refine evs_cons (cN (wB F4 g (by kernel_rfl) boot_list (cwT (evs_cons (cN (wG F4 g (by kernel_rfl) (cwF rfl (evs_cons (wL F4 rfl (evs_nil ⟨(g.fm F4).X 21 _ rfl, ?_⟩))))))))))
  refine int2ap (s := St s h4 _) (g.fm F4) (by show A.depth + 1 < _; omega) hh y0 yb fun b' tb' h5 tk5 k5 eb5 => evs_nil ?_
  show wpAny _ _ _ _ _ (St s h5 _)
  have F5 := frK F4 k5
  refine listB (by exact hh) eb5 (by omega) fun v6 h6 tk6 (k6 : Kp N _ _) il6 => ?_
  have F6 := frK F5 k6
  refine evs_nil ⟨ho35 _ (g.fm F6), ?_⟩
  refine three (s := St s h6 tk6) (g.fm F6) (by show A.depth + 1 < _; omega) (by show A.units + 3 + 64 < _; omega) ((il4.kp k5).kp k6) il6 fun t7 h7 tk7 k7 => ?_
  exact hQ _ _ _ (F6.kp.trans k7)
end
end Mine
end PartLM
section PartSRT
open PySem PySem.W PyProof.Rows PySem.Calls
set_option Elab.async false
set_option maxRecDepth 100000
namespace Mine
/-- the new objects but the one at a -/
def rest (h₀ : Heap) (L : Addr) (h : Heap) (a : Addr) : List (Addr × Obj) := (allNews h₀ L h).filter fun q => decide (q.1 ≠ a)
theorem rest_mem {h₀ h : Heap} {L a b : Addr} {o : Obj} : (b, o) ∈ rest h₀ L h a ↔ (h.get? b = some o ∧ b ≠ L ∧ h₀.get? b = none) ∧ b ≠ a := by
  unfold rest; rw [List.mem_filter, allNews_mem, decide_eq_true_eq]
/-- all but what lies at a and L -/
def K2 (a L : Addr) (h h' : Heap) : Prop := ∀ b x, b ≠ a → b ≠ L → h.get? b = some x → h'.get? b = some x
section
variable {N : Nat} {g0 h h' : Heap} {L a : Addr} {m : Str → Option Value} {o o' : Obj}
theorem hid_none (F : Fm N g0 L h m) (hag : g0.get? a = none) : (hid N g0).get? a = none := by
  cases z : (hid N g0).get? a with
  | none => rfl
  | some x => have := (hid_some.mp z).1; rw [hag] at this; cases this
theorem rest_news (F : Fm N g0 L h m) (ha : h.get? a = some o) (haL : a ≠ L) (hag : g0.get? a = none) : News (hid N g0) L h ((a, o) :: rest (hid N g0) L h a) := fun q hq => by
  rcases List.mem_cons.mp hq with rfl | hq
  · exact ⟨ha, haL, hid_none F hag⟩
  · obtain ⟨b, x⟩ := q
    exact (rest_mem.mp hq).1
theorem rest_upd : UpdF a o ((a, o) :: rest (hid N g0) L h a) (fun x => (a, x) :: rest (hid N g0) L h a) := UpdF.head fun q hq => by
  obtain ⟨b, x⟩ := q
  exact (rest_mem.mp hq).2
theorem chg (F : Fm N g0 L h m) (hag : g0.get? a = none) (F' : Fr (hid N g0) L h' m) (N' : News (hid N g0) L h' ((a, o') :: rest (hid N g0) L h a)) : Fm N g0 L h' m ∧ h'.get? a = some o' ∧ K2 a L h h' := by
  have k : K2 a L h h' := fun b x hb hbL e => by
    cases q : (hid N g0).get? b with
    | some x' =>
      have := F.fr.keep b x' q
      rw [e] at this
      cases this
      exact F'.keep b _ q
    | none => exact (N' _ (.tail _ (rest_mem.mpr ⟨⟨e, hbL, q⟩, hb⟩))).1
  refine ⟨⟨F', fun b x hb e => ?_, F.new, F.lo⟩, (N' _ (.head _)).1, k⟩
  obtain ⟨sl, e1, q⟩ := F.kb b x hb e
  exact ⟨sl, k b _ (fun z => by rw [z, hag] at e; cases e) hb e1, q⟩
theorem K2.kb (k : K2 a L h h') {g : Heap} (kb : KB N L g h) (hg : g.get? a = none) : KB N L g h' := fun b x hb e => by
  obtain ⟨sl, e1, q⟩ := kb b x hb e
  exact ⟨sl, k b _ (fun z => by rw [z, hg] at e; cases e) hb e1, q⟩
end
section
variable {prog : Program} {w : World} {A : Around} {E : Value → Shared → Prop} {s : Shared} {h : Heap} {tk : Nat}
/-- a comparison of two lists within a sort -/
theorem keyLtIL {Q : Bool → Shared → Prop} {u v : Value} {xs ys : List Int} (x : IL h u xs) (y : IL h v ys) (hu : A.units < cLine) (q : Q (ltL xs ys) (St s h tk)) : wpAny (model prog w) A (keyLt' oneType' u v) Q E (St s h tk) := by
  obtain ⟨a, vs, rfl, hl, hi⟩ := x
  obtain ⟨b, us, rfl, hl2, hi2⟩ := y
  obtain ⟨d, n, sl, e⟩ := isList_obj hl
  obtain ⟨d2, n2, sl2, e2⟩ := isList_obj hl2
  rw [keyLt'_oneType, oneLt'_eq]
  simp only [if_true]
  refine wpAny_bind (wpAny_cRoomFor hu ?_)
  refine wpAny_bind (wpAny_callSpecialIfBound?_slot (s := St s h tk) ⟨_, e, rfl⟩ F.slot_list_lt (call_meets (s := St s h tk) F.slot_list_lt ⟨_, e, rfl⟩ F.entry_list_lt (F.args_list_lt_2 _ _) (meets_lt a b vs us xs ys hi hi2 d d2 sl sl2 n n2) ⟨e, e2, ?_⟩))
  exact wpAny_truthy_bool q
end
section
variable {w : World} {A : Around} {E : Value → Shared → Prop} {s : Shared} {Q : Value → Shared → Prop} {N : Nat} {g0 h : Heap} {L : Addr} {tk : Nat} {m : Str → Option Value} {vs : List Value}
/-- what stands while a sort with keys runs -/
structure SI (N : Nat) (g0 h : Heap) (L : Addr) (m : Str → Option Value) (D kS : Addr) (e1 e : Nat) (ks : List Value) (KV : Nat → Value → Heap → Prop) (hc : Heap) : Prop where
  fm : Fm N g0 L hc m
  kb : KB N L h hc
  res : hc.get? D = some (seqObj "list" #[] e1)
  key : hc.get? kS = some (seqObj "list" (List.toArray ks) e)
  kv : ∀ j x, ks[j]? = some x → KV j x hc
theorem SI.kp {D kS : Addr} {e1 e : Nat} {ks : List Value} {KV : Nat → Value → Heap → Prop} {h1 h2 : Heap} (x : SI N g0 h L m D kS e1 e ks KV h1) (k : Kp N h1 h2) (st1 : ∀ i k h1 h2, KV i k h1 → Kp N h1 h2 → KV i k h2) : SI N g0 h L m D kS e1 e ks KV h2 :=
  ⟨frK x.fm k, x.kb.trans k.kb, k.hard x.res (seq_hard rfl), k.hard x.key (seq_hard rfl), fun j y hy => st1 _ _ _ _ (x.kv j y hy) k⟩
section
variable {f : Value} (KV : Nat → Value → Heap → Prop) {D kS : Addr} {e1 : Nat}
    (hDL : D ≠ L) (hkL : kS ≠ L) (hDk : D ≠ kS) (hDg : g0.get? D = none) (hkg : g0.get? kS = none) (hDh : h.get? D = none) (hkh : h.get? kS = none)
    (st1 : ∀ i k h1 h2, KV i k h1 → Kp N h1 h2 → KV i k h2)
    (st2 : ∀ i k h1 h2 a ks e, KV i k h1 → h1.get? a = some (seqObj "list" (List.toArray ks) e) → (∀ j x, ks[j]? = some x → KV j x h1) → h1.Ns L m → K2 a L h1 h2 → KV i k h2)
    (key : ∀ i v h1 tk1 (K : Value → Shared → Prop), vs[i]? = some v → Fm N g0 L h1 m → KB N L h h1 → (∀ k h2 tk2, Kp N h1 h2 → KV i k h2 → K k (St s h2 tk2)) → wpAny (model prg w) A.in1.in1 (call f [v]) K (fun _ _ => False) (St s h1 tk1))
include hDL hkL hDk hDg hkg hDh hkh st1 st2 key in
theorem keysK {Fin : List Value → Nat → Shared → Prop}
    (fin : ∀ ks e hc tk, ks.length = vs.length → SI N g0 h L m D kS e1 e ks KV hc → Fin ks e (St s hc tk)) :
    ∀ (r ks : List Value) (e : Nat) (hc : Heap) (tk : Nat), vs.drop ks.length = r → ks.length + r.length = vs.length → SI N g0 h L m D kS e1 e ks KV hc → KatKeys prg w A.in1.in1 (hid N g0) L m kS f Fin r ks e (St s hc tk)
  | [], ks, e, hc, tk, _, hl, I => KatKeys.nil (fin ks e hc tk (by simpa using hl) I)
  | v :: r, ks, e, hc, tk, hr, hl, I => by
    have hv : vs[ks.length]? = some v := by
      have : (vs.drop ks.length)[0]? = some v := by rw [hr]; rfl
      rw [List.getElem?_drop] at this
      simpa using this
    refine KatKeys.cons (key ks.length v hc tk _ hv I.fm I.kb fun k h2 tk2 k2 kv2 => ?_)
    have I2 := I.kp k2 st1
    refine KatBack.intro (s := St s h2 tk2) I2.fm.fr (rest_news I2.fm I2.key hkL hkg) rest_upd fun h3 c F3 N3 => ?_
    obtain ⟨F3, e3, kk⟩ := chg I2.fm hkg F3 N3
    refine keysK fin r (ks ++ [k]) c h3 tk2 ?_ ?_ ⟨F3, kk.kb I2.kb hkh, kk _ _ hDk hDL I2.res, e3, fun j y hy => ?_⟩
    · rw [List.length_append, List.length_singleton, ← List.drop_drop, hr]; rfl
    · rw [List.length_append, List.length_singleton]; rw [List.length_cons] at hl; omega
    · by_cases hj : j < ks.length
      · rw [List.getElem?_append_left hj] at hy
        exact st2 _ _ _ _ kS ks e (I2.kv j y hy) I2.key I2.kv I2.fm.ns kk
      · have hj' : j = ks.length := by
          apply Classical.byContradiction; intro hne
          rw [List.getElem?_eq_none (by rw [List.length_append, List.length_singleton]; omega)] at hy
          cases hy
        subst hj'
        rw [List.getElem?_append_right (Nat.le_refl _)] at hy
        simp at hy
        subst hy
        exact st2 _ _ _ _ kS ks e kv2 I2.key I2.kv I2.fm.ns kk
end
set_option maxHeartbeats 1000000 in
/-- sorted(xs, key=f) -/
theorem sortK {l : Addr} {f : Value} {kw : List (Str × Value)} {T : Value} {lt : Nat → Nat → Bool} (KV : Nat → Value → Heap → Prop)
    (F : Fm N g0 L h m) (hl : h.IsList l vs.toArray) (h2 : 2 ≤ vs.length) (h64 : vs.length < 64)
    (ha1 : argsOk "sorted" ⟨[.ref l], kw⟩) (ha2 : ∀ x, argsOk "list.sort" ⟨[.ref x], kw⟩) (ht : ∀ x, Builtin.«list.sort» ⟨[.ref x], kw⟩ = ksk_tree x f false)
    (st1 : ∀ i k h1 h2, KV i k h1 → Kp N h1 h2 → KV i k h2)
    (st2 : ∀ i k h1 h2 a ks e, KV i k h1 → h1.get? a = some (seqObj "list" (List.toArray ks) e) → (∀ j x, ks[j]? = some x → KV j x h1) → h1.Ns L m → K2 a L h1 h2 → KV i k h2)
    (key : ∀ i v h1 tk1 (K : Value → Shared → Prop), vs[i]? = some v → Fm N g0 L h1 m → KB N L h h1 → (∀ k h2 tk2, Kp N h1 h2 → KV i k h2 → K k (St s h2 tk2)) → wpAny (model prg w) A.in1.in1 (call f [v]) K (fun _ _ => False) (St s h1 tk1))
    (kty : ∀ i k h1, KV i k h1 → Looks (model prg w) h1 (typeOf k) T) (hT1 : (T != Value.type "tuple") = true) (hT2 : (T == T) = true)
    (cmp : ∀ i j x y h1 tk1 (K : Bool → Shared → Prop), i < vs.length → j < vs.length → Fm N g0 L h1 m → KB N L h h1 → KV i x h1 → KV j y h1 → (∀ h2 tk2, Kp N h1 h2 → K (lt i j) (St s h2 tk2)) → wpAny (model prg w) A.in1.in1 (keyLt' oneType' x y) K (fun _ _ => False) (St s h1 tk1))
    (tr : ∀ a b c, lt a b = true → lt b c = true → lt a c = true) (tot : ∀ a b, a < vs.length → b < vs.length → a ≠ b → lt a b = true ∨ lt b a = true)
    (q : ∀ D p h' tk', Fm N g0 L h' m → KB N L h h' → h'.IsList D (List.toArray (p.toList.map fun i => vs.getD i Value.none)) → Pm vs.length p → Asc lt p vs.length → Q (.ref D) (St s h' tk')) :
    wpAny (model prg w) A (call (.builtin "sorted") [.ref l] kw) Q E (St s h tk) := by
  refine kat_sortedK (s := St s h tk) (b := false) F.fr (allNews_news _ L h) hl h2 h64 ha1 ha2 ht fun D kS e1 h' F' N' hDk hlt => ?_
  have nk := N' _ (.head _)
  have nD := N' _ (.tail _ (.head _))
  obtain ⟨F1, kb1⟩ := kb_of F F' N' fun q hq => .tail _ (.tail _ hq)
  have none_of : ∀ a, a ≠ L → (hid N g0).get? a = none → (∀ q ∈ allNews (hid N g0) L h, q.1 < a) → h.get? a = none := fun a haL ha hq => by
    cases z : h.get? a with
    | none => rfl
    | some o => exact absurd (hq _ (allNews_mem.mpr ⟨z, haL, ha⟩)) (Nat.lt_irrefl _)
  have hDh := none_of D nD.2.1 nD.2.2 hlt
  have hkh := none_of kS nk.2.1 nk.2.2 fun q hq => Nat.lt_trans (hlt q hq) hDk
  have hDg := new_none F hDh
  have hkg := new_none F hkh
  have hDkn : D ≠ kS := Nat.ne_of_lt hDk
  refine keysK (s := s) (A := A) KV nD.2.1 nk.2.1 hDkn hDg hkg hDh hkh st1 st2 key (fun ks e hc tk' hks I => ?_) vs [] 0 h' tk rfl (by simp) ⟨F1, kb1, nD.1, nk.1, fun j x hx => by simp at hx⟩
  have ksl : ks.length = vs.length := hks
  refine kas_kind (s := St s hc tk') (T := T) (by omega) (fun v hv => ?_) hT1 hT2 ?_
  · obtain ⟨j, hj⟩ := List.mem_iff_getElem?.mp hv
    exact kty j v hc (I.kv j v hj)
  have getk : ∀ i, i < vs.length → ∃ x, ks[i]? = some x ∧ ks.getD i Value.none = x := fun i hi => by
    refine ⟨ks[i]'(by omega), List.getElem?_eq_getElem (by omega), ?_⟩
    simp [List.getD, show i < ks.length by omega]
  refine Asks.wp (I := fun s' => ∃ hc tk, s' = St s hc tk ∧ SI N g0 h L m D kS e1 e ks KV hc) (lt := lt) (n := vs.length) ?_ (Asks.mono ?_ (ask_sort tr tot (by omega))) ⟨hc, tk', rfl, I⟩
  · rintro i j C s' hi hj ⟨hc, tk, rfl, I⟩ hC
    obtain ⟨x, hx, ex⟩ := getk i hi
    obtain ⟨y, hy, ey⟩ := getk j hj
    show wpAny _ _ (keyLt' oneType' (ks.getD i Value.none) (ks.getD j Value.none)) _ _ _
    rw [ex, ey]
    exact cmp i j x y hc tk _ hi hj I.fm I.kb (I.kv i x hx) (I.kv j y hy) fun h2 tk2 k2 => hC _ ⟨h2, tk2, rfl, I.kp k2 st1⟩
  · rintro p ⟨hp, hasc⟩ s' ⟨hc, tk, rfl, I⟩
    refine KatFin.intro (s := St s hc tk) I.fm.fr (rest_news I.fm I.key nk.2.1 hkg) rest_upd fun h3 c3 F3 N3 => ?_
    obtain ⟨F3, e3, kk3⟩ := chg I.fm hkg F3 N3
    have r3 := kk3 _ _ hDkn nD.2.1 I.res
    have b3 := kk3.kb I.kb hkh
    refine KasFin.intro (s := St s h3 tk) F3.fr (rest_news F3 r3 nD.2.1 hDg) rest_upd fun h4 c4 F4 N4 => ?_
    obtain ⟨F4, e4, kk4⟩ := chg F3 hDg F4 N4
    exact q D p h4 tk F4 (kk4.kb b3 hDh) ⟨_, e4, rfl, c4, rfl⟩ hp hasc
set_option maxHeartbeats 1000000 in
/-- sorted(xs) of lists of ints -/
theorem sortP {l : Addr} {pss : List (List Int)} (F : Fm N g0 L h m) (hl : h.IsList l vs.toArray) (hf : F2 (IL h) vs pss) (h2 : 2 ≤ vs.length) (h64 : vs.length < 64) (hu : A.units + 2 < cLine) (nd : pss.Nodup)
    (q : ∀ D p h' tk', Fm N g0 L h' m → KB N L h h' → h'.IsList D (List.toArray (p.toList.map fun i => vs.getD i Value.none)) → Pm vs.length p → Asc (fun i j => ltL (pss.getD i []) (pss.getD j [])) p vs.length → Q (.ref D) (St s h' tk')) :
    wpAny (model prg w) A (call (.builtin "sorted") [.ref l]) Q E (St s h tk) := by
  have hlen := hf.length
  refine kat_sorted (s := St s h tk) F.fr (allNews_news _ L h) hl h2 h64 fun D e1 h' F' N' hlt => ?_
  have nD := N' _ (.head _)
  obtain ⟨F1, kb1⟩ := kb_of F F' N' fun q hq => .tail _ hq
  have hDh : h.get? D = none := by
    cases z : h.get? D with
    | none => rfl
    | some o => exact absurd (hlt _ (allNews_mem.mpr ⟨z, nD.2.1, nD.2.2⟩)) (Nat.lt_irrefl _)
  have hDg := new_none F hDh
  have il : ∀ i, i < vs.length → IL h' (vs.getD i Value.none) (pss.getD i []) := fun i hi => by
    obtain ⟨a, e, r⟩ := (hf.imp fun _ _ y => y.kb F.ns kb1).get (i := i) (b := pss.getD i []) (by simp [List.getD, show i < pss.length by omega])
    have : vs.getD i Value.none = a := by simp [List.getD, e]
    rw [this]; exact r
  refine kas_kind (s := St s h' tk) (T := .type "list") h2 (fun v hv => ?_) (by decide) (by decide) ?_
  · obtain ⟨j, hj⟩ := List.mem_iff_getElem?.mp hv
    have hjl : j < vs.length := by
      apply Nat.lt_of_not_le; intro z; rw [List.getElem?_eq_none z] at hj; cases hj
    obtain ⟨a, us, ea, hla, _⟩ := il j hjl
    have : vs.getD j Value.none = v := by simp [List.getD, hj]
    rw [this] at ea
    subst ea
    obtain ⟨o, ho, hc, _⟩ := hla
    rw [← hc]
    exact (Looks.ld ho).andThen .now
  refine Asks.wp (I := fun s' => s' = St s h' tk) (lt := fun i j => ltL (pss.getD i []) (pss.getD j [])) (n := vs.length) ?_ (Asks.mono ?_ (ask_sort (fun a b c => lt_tr) (fun a b ha hb hab => lt_tot fun z => hab ?_) (by omega))) rfl
  · rintro i j C s' hi hj rfl hC
    show wpAny _ _ (keyLt' oneType' (vs.getD i Value.none) (vs.getD j Value.none)) _ _ _
    exact keyLtIL (il i hi) (il j hj) (by show A.units + 1 + 1 < _; omega) (hC _ rfl)
  · rintro p ⟨hp, hasc⟩ s' rfl
    refine KasFin.intro (s := St s h' tk) F1.fr (rest_news F1 nD.1 nD.2.1 hDg) rest_upd fun h4 c4 F4 N4 => ?_
    obtain ⟨F4, e4, kk4⟩ := chg F1 hDg F4 N4
    exact q D p h4 tk F4 (kk4.kb kb1 hDh) ⟨_, e4, rfl, c4, rfl⟩ hp hasc
  · have ha' : a < pss.length := by omega
    have hb' : b < pss.length := by omega
    have e1 : pss.getD a [] = pss[a] := by simp [List.getD, ha']
    have e2 : pss.getD b [] = pss[b] := by simp [List.getD, hb']
    rw [e1, e2] at z
    exact (List.getElem?_inj ha' nd).mp (by rw [List.getElem?_eq_getElem ha', List.getElem?_eq_getElem hb', z])
end
end Mine
end PartSRT
section PartCMP
open PySem PySem.W PyProof.Rows PySem.Calls
set_option Elab.async false
set_option maxRecDepth 100000
namespace Mine
theorem keeps_toks {s : Shared} {t : Nat} : Keeps s { s with toks := t } := ⟨_, _, rfl, fun _ _ e => e⟩
/-- an element that is reckoned from an int -/
def IntEl (f : Int → Int) (v y : Value) : Prop := ∃ a t u, v = .int a t ∧ y = .int (f a) u
theorem paired_ints {f : Int → Int} : ∀ {vs ys : List Value} {src : List Int}, IntsAre vs src → Paired (IntEl f) vs ys → IntsAre ys (src.map f)
  | _, _, _, .nil, .nil => .nil
  | _, _, _, .cons n t r, .cons h p => by
    obtain ⟨a, t', u, e, rfl⟩ := h
    cases e
    exact .cons _ _ (paired_ints r p)
theorem ints_of_get : ∀ {vs : List Value} {src : List Int}, vs.length = src.length → (∀ (i : Nat) (v : Value), vs[i]? = some v → ∃ a t, v = Value.int a t ∧ src[i]? = some a) → IntsAre vs src
  | [], [], _, _ => .nil
  | [], _ :: _, h, _ => by simp at h
  | _ :: _, [], h, _ => by simp at h
  | v :: vs, a :: src, h, g => by
    obtain ⟨b, t, rfl, e⟩ := g 0 v rfl
    simp at e
    subst e
    exact .cons _ _ (ints_of_get (by simpa using h) fun i u hu => by
      obtain ⟨c, t', e1, e2⟩ := g (i + 1) u (by simpa using hu)
      exact ⟨c, t', e1, by simpa using e2⟩)
section
variable {w : World} {A : Around} {E : Value → Shared → Prop} {s : Shared} {h : Heap} {tk : Nat} {N : Nat} {g0 : Heap} {L : Addr} {m : Str → Option Value} {env : Env} {scope : Scope} {cl : List (Str × Addr)} {x : Str} {elt : Expr} {src : List Int} {f : Int → Int}
/-- how an element is reckoned, over the heap h1 -/
def ElOk (w : World) (A : Around) (env : Env) (scope : Scope) (cl : List (Str × Addr)) (x : Str) (elt : Expr) (src : List Int) (f : Int → Int) (h1 : Heap) : Prop :=
  ∀ C a t (s₃ : Shared) m₃ (E' : Value → Shared → Prop), a ∈ src → s₃.heap.Ns C m₃ → m₃ x = some (.int a t) → (∀ b o, h1.get? b = some o → s₃.heap.get? b = some o) →
    wpAny (model prg w) A (eval elt (compEnvC scope cl C env)) (fun y s₄ => (∃ u, y = .int (f a) u) ∧ Keeps s₃ s₄) E' s₃
theorem quietG {P : Nat → Value → Prop} {h1 : Heap} {io : Obj} (hP : ∀ i v, P i v → ∃ a t, v = .int a t ∧ src[i]? = some a) (el : ElOk w A env scope cl x elt src f h1) {s₂ : Shared} (e2 : s₂.heap = h1.push io) :
    QuietOnC prg w A env scope cl x [] elt [h1.objs.size] P (fun _ => true) (IntEl f) s₂ := by
  refine ⟨fun C i v s₃ m₃ E' _ _ _ _ _ _ => ?_, fun C i v s₃ m₃ E' _ hp _ hn hm hk _ => ?_⟩
  · rw [List.forIn_nil]
    exact wpAny_pure ⟨rfl, ⟨_, _, rfl, fun _ _ e => e⟩⟩
  · obtain ⟨a, t, rfl, e⟩ := hP i v hp
    refine wpAny_mono (el C a t s₃ m₃ E' (List.mem_of_getElem? e) hn hm fun b o eb => hk b o (fun z => ?_) (by rw [e2]; exact Heap.get?_push_of_some _ eb)) (fun y s₄ h₄ => ?_) fun _ _ z => z
    · rcases List.mem_cons.mp z with z | z
      · rw [z] at eb; exact absurd (Heap.lt_size eb) (Nat.lt_irrefl _)
      · cases z
    · obtain ⟨⟨u, rfl⟩, hk⟩ := h₄
      exact ⟨⟨a, t, u, rfl, rfl⟩, hk⟩
theorem keep_push {h1 h' : Heap} {io : Obj} (hk : ∀ b o, b ∉ [h1.objs.size] → (h1.push io).get? b = some o → h'.get? b = some o) : ∀ b o, h1.get? b = some o → h'.get? b = some o := fun b o e =>
  hk b o (fun z => by
    rcases List.mem_cons.mp z with z | z
    · rw [z] at e; exact absurd (Heap.lt_size e) (Nat.lt_irrefl _)
    · cases z) (Heap.get?_push_of_some _ e)
/-- [elt for x in a list of ints] -/
theorem compL {px pos : Pos} {iter : Expr} {Q : Value → Shared → Prop} (hh : A.handled = none) (hclos : closureFor scope env = pure cl) (hcell : ∀ y ∈ scope.names, y.2 ≠ .cell) (hkind : scope.kind = .function)
    (hnames : ∀ y ∈ scope.names, y.2 = .local → scope.names.lookup y.1 = some .local) (hx : scope.names.lookup x = some .local) (hz : src.length ≤ 16777216)
    (it : ∀ K : Value → Shared → Prop, (∀ l vs h1 tk1, Fm N g0 L h1 m → KB N L h h1 → h1.IsList l vs.toArray → IntsAre vs src → K (.ref l) (St s h1 tk1)) → wpAny (model prg w) A (eval iter env) K E (St s h tk))
    (el : ∀ h1, Fm N g0 L h1 m → KB N L h h1 → ElOk w A env scope cl x elt src f h1)
    (q : ∀ D ys h' tk', Fm N g0 L h' m → KB N L h h' → h'.IsList D (List.toArray ys) → IntsAre ys (src.map f) → Q (.ref D) (St s h' tk'))
    (hs : ∀ x, foldedSetIterable iter env x = pure x := by intro _; rfl) :
    wpAny (model prg w) A (eval (.ListComp elt [⟨.Name x px, iter, [], 0⟩] scope pos) env) Q E (St s h tk) := by
  refine wpAny_ListComp_free (fun _ => true) (IntEl f) hclos hcell hkind hnames hx (it _ fun l vs h1 tk1 F1 k1 hl hi => ?_) hs
  have ln := hi.length
  refine wpAny_pyIter_list (s := St s h1 tk1) hl ?_
  have hne : l ≠ h1.objs.size := fun z => by
    obtain ⟨o, ho, _⟩ := hl
    rw [z] at ho; exact absurd (Heap.lt_size ho) (Nat.lt_irrefl _)
  refine ⟨h1.objs.size, [h1.objs.size, l], [h1.objs.size], vs.toArray.size, _, _, rfl, Walks.list hh _ l hne vs.toArray, ?_, ⟨⟨_, Heap.get?_push_size _ rfl, rfl, rfl⟩, hl.push _⟩, ?_, quietG ?_ (el h1 F1 k1) rfl, ?_⟩
  · rw [List.size_toArray, sizeLine_eq]; omega
  · intro b hb
    show b < (h1.push _).objs.size
    rw [Heap.size_push]
    rcases List.mem_cons.mp hb with rfl | hb
    · exact Nat.lt_succ_self _
    · rcases List.mem_cons.mp hb with rfl | hb
      · obtain ⟨o, ho, _⟩ := hl
        exact Nat.lt_succ_of_lt (Heap.lt_size ho)
      · cases hb
  · intro i v hv
    have hv : vs[i]? = some v := by simpa using hv
    have hil : i < src.length := by
      have : i < vs.length := by
        apply Nat.lt_of_not_le; intro z; rw [List.getElem?_eq_none z] at hv; cases hv
      omega
    obtain ⟨t, e⟩ := ints_get hi hil
    rw [hv] at e
    cases e
    exact ⟨_, t, rfl, by simp [List.getD, hil]⟩
  · intro D h' tk' ys us hD hlD _ hlen hP hF hk
    have keep := keep_push (h' := h') hk
    have kp : Kp N h1 h' := Kp.strict keep
    have eu : us = vs := by
      apply List.ext_getElem?
      intro j
      by_cases hj : j < us.length
      · have e := hP j us[j] (List.getElem?_eq_getElem hj)
        rw [List.getElem?_eq_getElem hj]
        simpa using e.symm
      · have hlen' : us.length = vs.length := by simpa using hlen
        rw [List.getElem?_eq_none (by omega), List.getElem?_eq_none (by omega)]
    subst eu
    rw [List.filter_eq_self.mpr (fun _ _ => rfl)] at hF
    exact q D ys.toList h' tk' (frK F1 kp) (k1.trans kp.kb) (by simpa using hlD) (paired_ints hi hF)
/-- [elt for x in a range] -/
theorem compR {px pos : Pos} {iter : Expr} {Q : Value → Shared → Prop} {lo : Int} {n : Nat} (hh : A.handled = none) (hclos : closureFor scope env = pure cl) (hcell : ∀ y ∈ scope.names, y.2 ≠ .cell) (hkind : scope.kind = .function)
    (hnames : ∀ y ∈ scope.names, y.2 = .local → scope.names.lookup y.1 = some .local) (hx : scope.names.lookup x = some .local) (hz : n ≤ 16777216) (b1 : -(2 ^ 61) ≤ lo) (b2 : lo < 2 ^ 61)
    (it : ∀ K : Value → Shared → Prop, (∀ r h1 tk1 t u v, Fm N g0 L h1 m → KB N L h h1 → IsRange h1 r lo (lo + n) 1 t u v → K (.ref r) (St s h1 tk1)) → wpAny (model prg w) A (eval iter env) K E (St s h tk))
    (el : ∀ h1, Fm N g0 L h1 m → KB N L h h1 → ElOk w A env scope cl x elt ((List.range n).map fun (i : Nat) => lo + (i : Int)) f h1)
    (q : ∀ D ys h' tk', Fm N g0 L h' m → KB N L h h' → h'.IsList D (List.toArray ys) → IntsAre ys (((List.range n).map fun (i : Nat) => lo + (i : Int)).map f) → Q (.ref D) (St s h' tk'))
    (hs : ∀ x, foldedSetIterable iter env x = pure x := by intro _; rfl) :
    wpAny (model prg w) A (eval (.ListComp elt [⟨.Name x px, iter, [], 0⟩] scope pos) env) Q E (St s h tk) := by
  refine wpAny_ListComp_free (fun _ => true) (IntEl f) hclos hcell hkind hnames hx (it _ fun r h1 tk1 t u v F1 k1 hr => ?_) hs
  have hsz : Builtin.Range.rangeSize lo (lo + n) 1 = (n : Int) := by rw [rangeSize_one]; split <;> omega
  refine wpAny_pyIter_range (s := St s h1 tk1) hr (small_one (by omega) (by omega) (by omega) (by omega)) ?_
  have hP : ∀ i v, (i < n ∧ ItemKind.int.is (lo + (i : Nat) * 1) v) → ∃ a t, v = .int a t ∧ ((List.range n).map fun (i : Nat) => lo + (i : Int))[i]? = some a := by
    rintro i v ⟨hi, t, e⟩
    have e1 : lo + ((i : Nat) : Int) * 1 = lo + (i : Int) := by omega
    rw [e1] at e
    exact ⟨lo + (i : Int), t, e, by simp [hi]⟩
  refine ⟨h1.objs.size, [h1.objs.size], [h1.objs.size], n, _, _, rfl, (Walks.range hh _ lo 1 n).bound, (by rw [sizeLine_eq]; exact hz), (by show IsRangeIter (h1.push _) _ _ _ _; rw [hsz, show lo + ((0 : Nat) : Int) * 1 = lo by omega, show (n : Int) - ((0 : Nat) : Int) = (n : Int) by omega]; exact Heap.get?_push_size _ rfl), ?_, quietG hP (el h1 F1 k1) rfl, ?_⟩
  · intro b hb
    show b < (h1.push _).objs.size
    rw [Heap.size_push]
    rcases List.mem_cons.mp hb with rfl | hb
    · exact Nat.lt_succ_self _
    · cases hb
  · intro D h' tk' ys us hD hlD _ hlen hPu hF hk
    have keep := keep_push (h' := h') hk
    have kp : Kp N h1 h' := Kp.strict keep
    have hi : IntsAre us ((List.range n).map fun (i : Nat) => lo + (i : Int)) := ints_of_get (by rw [hlen]; simp) fun i v hv => hP i v (hPu i v hv)
    rw [List.filter_eq_self.mpr (fun _ _ => rfl)] at hF
    exact q D ys.toList h' tk' (frK F1 kp) (k1.trans kp.kb) (by simpa using hlD) (paired_ints hi hF)
/-- y = [elt for x in a list of ints] -/
theorem compA {px py pos spos : Pos} {y : Str} {iter : Expr} {Q : Flow → Shared → Prop} (hL : env.locals = L) (hh : A.handled = none) (hsw : swapsWith (.ListComp elt [⟨.Name x px, iter, [], 0⟩] scope pos) (some (.Name y py)) spos.line env = pure true)
    (hclos : closureFor scope env = pure cl) (hcell : ∀ y ∈ scope.names, y.2 ≠ .cell) (hkind : scope.kind = .function)
    (hnames : ∀ y ∈ scope.names, y.2 = .local → scope.names.lookup y.1 = some .local) (hx : scope.names.lookup x = some .local) (hz : src.length ≤ 16777216)
    (hy : env.kindOf y = some .local) (hp : (env.scope.kind == .class || (env.scope.kind == .module && env.locals != env.globals)) = false)
    (it : ∀ K : Value → Shared → Prop, (∀ l vs h1 tk1, Fm N g0 L h1 m → KB N L h h1 → h1.IsList l vs.toArray → IntsAre vs src → K (.ref l) (St s h1 tk1)) → wpAny (model prg w) A (eval iter env) K E (St s h tk))
    (el : ∀ h1, Fm N g0 L h1 m → KB N L h h1 → ElOk w A env scope cl x elt src f h1)
    (q : ∀ D ys h' tk', Fm N g0 L h' (fun z => if z = y then some (.ref D) else m z) → KB N L h h' → h'.IsList D (List.toArray ys) → h.get? D = none → IntsAre ys (src.map f) → Q .next (St s h' tk'))
    (hs : ∀ x, foldedSetIterable iter env x = pure x := by intro _; rfl) :
    wpAny (model prg w) A (exec (.Assign [.Name y py] (.ListComp elt [⟨.Name x px, iter, [], 0⟩] scope pos) spos) env) Q E (St s h tk) := by
  subst hL
  refine wpAny_Assign_ListComp_free (fun _ => true) (IntEl f) hsw hclos hcell hkind hnames hx hy hp (it _ fun l vs h1 tk1 F1 k1 hl hi => ?_) hs
  have ln := hi.length
  refine wpAny_pyIter_list (s := St s h1 tk1) hl ?_
  have hne : l ≠ h1.objs.size := fun z => by
    obtain ⟨o, ho, _⟩ := hl
    rw [z] at ho; exact absurd (Heap.lt_size ho) (Nat.lt_irrefl _)
  refine ⟨h1.objs.size, [h1.objs.size, l], [h1.objs.size], vs.toArray.size, _, _, m, rfl, Walks.list hh _ l hne vs.toArray, ?_, ⟨⟨_, Heap.get?_push_size _ rfl, rfl, rfl⟩, hl.push _⟩, ?_, ?_, F1.ns.push _, quietG ?_ (el h1 F1 k1) rfl, ?_⟩
  · rw [List.size_toArray, sizeLine_eq]; omega
  · intro b hb
    show b < (h1.push _).objs.size
    rw [Heap.size_push]
    rcases List.mem_cons.mp hb with rfl | hb
    · exact Nat.lt_succ_self _
    · rcases List.mem_cons.mp hb with rfl | hb
      · obtain ⟨o, ho, _⟩ := hl
        exact Nat.lt_succ_of_lt (Heap.lt_size ho)
      · cases hb
  · intro z
    rcases List.mem_cons.mp z with z | z
    · exact absurd F1.ns.lt (by rw [z]; exact Nat.lt_irrefl _)
    · cases z
  · intro i v hv
    have hv : vs[i]? = some v := by simpa using hv
    have hil : i < src.length := by
      have : i < vs.length := by
        apply Nat.lt_of_not_le; intro z; rw [List.getElem?_eq_none z] at hv; cases hv
      omega
    obtain ⟨t, e⟩ := ints_get hi hil
    rw [hv] at e
    cases e
    exact ⟨_, t, rfl, by simp [List.getD, hil]⟩
  · intro D h' tk' ys us hD hlD _ hlen hP hF hns hk
    have keep : ∀ b o, b ≠ env.locals → h1.get? b = some o → h'.get? b = some o := fun b o hb e => hk b o hb (fun z => by
      rcases List.mem_cons.mp z with z | z
      · rw [z] at e; exact absurd (Heap.lt_size e) (Nat.lt_irrefl _)
      · cases z) (Heap.get?_push_of_some _ e)
    have kb : KB N env.locals h1 h' := KB.strict keep
    have hDh1 : h1.get? D = none := by
      cases z : h1.get? D with
      | none => rfl
      | some o => have := Heap.get?_push_of_some { cls := .type "list_iterator", data := .fields #[.ref l, .int 0 0] } z; rw [show (h1.push { cls := .type "list_iterator", data := .fields #[.ref l, .int 0 0] }).get? D = none from hD] at this; cases this
    have hDh : h.get? D = none := by
      cases z : h.get? D with
      | none => rfl
      | some o =>
        by_cases hDL : D = env.locals
        · have := F1.ns.lt
          obtain ⟨oo, es, ep, ho, _⟩ := F1.ns
          rw [← hDL, hDh1] at ho; cases ho
        · obtain ⟨sl, e1, _⟩ := k1 D o hDL z
          rw [hDh1] at e1; cases e1
    have F' : Fm N g0 env.locals h' (fun z => if z = y then some (.ref D) else m z) :=
      ⟨⟨hns, fun b o e => keep b o (fun z => by rw [z] at e; have := (hid_some.mp e).1; rw [F1.new] at this; cases this) (F1.fr.keep b o e), F1.fr.above⟩, F1.kb.trans kb, F1.new, F1.lo⟩
    have eu : us = vs := by
      apply List.ext_getElem?
      intro j
      by_cases hj : j < us.length
      · have e := hP j us[j] (List.getElem?_eq_getElem hj)
        rw [List.getElem?_eq_getElem hj]
        simpa using e.symm
      · have hlen' : us.length = vs.length := by simpa using hlen
        rw [List.getElem?_eq_none (by omega), List.getElem?_eq_none (by omega)]
    subst eu
    rw [List.filter_eq_self.mpr (fun _ _ => rfl)] at hF
    exact q D ys.toList h' tk' F' (k1.trans kb) (by simpa using hlD) hDh (paired_ints hi hF)
end
end Mine
end PartCMP
section PartPRT
open PySem PySem.W PyProof.Rows PySem.Calls PySem.SeqAt
set_option Elab.async false
set_option maxRecDepth 100000
namespace Mine
theorem ints_fun {vs : List Value} {xs ys : List Int} (x : IntsAre vs xs) (y : IntsAre vs ys) : xs = ys := by
  induction x generalizing ys with
  | nil => cases y; rfl
  | cons n t _ ih => cases y with | cons m u r => rw [ih r]
theorem IL.fun_ {h : Heap} {v : Value} {xs ys : List Int} (x : IL h v xs) (y : IL h v ys) : xs = ys := by
  obtain ⟨a, us, ea, hla, hia⟩ := x
  obtain ⟨b, us2, eb, hlb, hib⟩ := y
  rw [ea] at eb; cases eb
  obtain ⟨o, ho, _, n, hd⟩ := hla
  obtain ⟨o2, ho2, _, n2, hd2⟩ := hlb
  rw [ho] at ho2; cases ho2; rw [hd] at hd2; cases hd2
  exact ints_fun hia hib
open Classical in
noncomputable def eqv (h : Heap) (x : List Int) (y : Value) : Bool := decide (IL h y x)
theorem eqv_iff {h : Heap} {x : List Int} {y : Value} : eqv h x y = true ↔ IL h y x := @decide_eq_true_iff _ (Classical.propDecidable _)
section
variable {prog : Program} {w : World} {A : Around} {E : Value → Shared → Prop} {s : Shared} {h : Heap} {tk : Nat} {N : Nat} {g0 : Heap} {L : Addr} {m : Str → Option Value}
/-- two lists within «in» -/
theorem eqAtIL {u v : Value} {xs ys : List Int} (x : IL h u xs) (y : IL h v ys) (hu : A.units + 64 < cLine) : EqAt A (St s h tk) u v (decide (xs = ys)) := by
  obtain ⟨a, vs, rfl, hl, hi⟩ := x
  obtain ⟨b, us, rfl, hl2, hi2⟩ := y
  by_cases hab : a = b
  · subst hab
    have e : vs = us := by
      obtain ⟨o, ho, _, n, hd⟩ := hl
      obtain ⟨o2, ho2, _, n2, hd2⟩ := hl2
      rw [ho] at ho2; cases ho2; rw [hd] at hd2; cases hd2; rfl
    subst e
    rw [ints_fun hi hi2, decide_eq_true rfl]
    exact EqAt.same _
  · exact EqAt.of_refs hab fun prog w E Q hq => eq_intsK (s := St s h tk) hl hi hl2 hi2 hu hq
/-- part not in parts -/
theorem notInLL {Q : Value → Shared → Prop} {D : Addr} {v : Value} {vs : List Value} {pss : List (List Int)} {x : List Int} (hl : h.IsList D vs.toArray) (hf : F2 (IL h) vs pss) (il : IL h v x) (hu : A.units + 66 < cLine)
    (q : Q (.bool (!decide (x ∈ pss))) (St s h tk)) : wpAny (model prog w) A (compareOp .NotIn v (.ref D)) Q E (St s h tk) := by
  refine notIn_listAt (s := St s h tk) (eqv h x) hl (fun y hy => ?_) ?_
  · obtain ⟨i, hi⟩ := List.mem_iff_getElem?.mp (show y ∈ vs by simpa using hy)
    obtain ⟨ns, _, r⟩ := hf.get' hi
    have e := eqAtIL (A := A.in1) (s := s) (tk := tk) r il (by show A.units + 1 + 64 < _; omega)
    have : eqv h x y = decide (ns = x) := by
      rw [Bool.eq_iff_iff, eqv_iff, decide_eq_true_eq]
      exact ⟨fun z => IL.fun_ r z, fun z => z ▸ r⟩
    rw [this]
    exact e
  · have : vs.toArray.any (eqv h x) = decide (x ∈ pss) := by
      rw [show vs.toArray.any (eqv h x) = vs.any (eqv h x) by simp, Bool.eq_iff_iff, List.any_eq_true, decide_eq_true_eq]
      constructor
      · rintro ⟨y, hy, e⟩
        obtain ⟨i, hi⟩ := List.mem_iff_getElem?.mp hy
        obtain ⟨ms, hms, r2⟩ := hf.get' hi
        rw [IL.fun_ ((eqv_iff).mp e) r2]
        exact List.mem_of_getElem? hms
      · intro hx
        obtain ⟨i, hi⟩ := List.mem_iff_getElem?.mp hx
        obtain ⟨y, hy, r⟩ := hf.get hi
        exact ⟨y, List.mem_of_getElem? hy, eqv_iff.mpr r⟩
    rw [this]
    exact q
/-- xs[i:j] -/
theorem wCut {Q : Value → Shared → Prop} {lo hi : PySem.Expr} {x : Str} {p xp : Pos} {l : Addr} {vs : List Value} {i j : Nat} {t u : Tok} (F : Fm N g0 L h m) (hl : h.IsList l vs.toArray) (hij : i ≤ j) (hj : j ≤ vs.length) (hz : vs.length ≤ 16777216)
    (q : ∀ c h', Fm N g0 L h' m → KB N L h h' → h'.IsList c ((vs.drop i).take (j - i)).toArray → Q (.ref c) (St s h' tk)) :
    wpAny (model prog w) A (subscriptTail (.Name x xp) (.Slice (some lo) (some hi) none p) (.ref l) (.ref h.objs.size)) Q E (St s (h.push { cls := .type "slice", data := .fields #[.int (i : Int) t, .int (j : Int) u, .none] }) tk) := by
  refine slice_list (s := St s h tk) (m := m) F.fr (allNews_news _ L h) hl (.int _ _) (.int _ _) (fun h' F' N' => ?_) rfl (fun _ => rfl) (by rw [List.size_toArray, sizeLine_eq]; exact hz)
  obtain ⟨F1, k1⟩ := kb_of1 F F' N'
  have e := (N' _ (.head _)).1
  rw [slicePick_run _ _ _ (by simpa using hj) hij] at e
  exact q _ h' F1 k1 ⟨_, e, rfl, 0, rfl⟩
theorem callRange1 {Q : Value → Shared → Prop} {n : Int} {t : Tok} (F : Fm N g0 L h m) (q : ∀ r h' tk' t u v, Fm N g0 L h' m → Kp N h h' → IsRange h' r 0 n 1 t u v → Q (.ref r) (St s h' tk')) :
    wpAny (model prog w) A (call (.type "range") [.int n t]) Q E (St s h tk) :=
  call_range_1 (s := St s h tk) (q _ _ _ _ _ _ (frK F (Kp.push _ _)) (Kp.push _ _) (Heap.get?_push_size _ rfl)) 
theorem callRange2 {Q : Value → Shared → Prop} {n k : Int} {t u : Tok} (F : Fm N g0 L h m) (q : ∀ r h' tk' t u v, Fm N g0 L h' m → Kp N h h' → IsRange h' r n k 1 t u v → Q (.ref r) (St s h' tk')) :
    wpAny (model prog w) A (call (.type "range") [.int n t, .int k u]) Q E (St s h tk) :=
  call_range_2 (s := St s h tk) (q _ _ _ _ _ _ (frK F (Kp.push _ _)) (Kp.push _ _) (Heap.get?_push_size _ rfl))
end
end Mine
end PartPRT
section PartPRT2
open PySem PySem.W PyProof.Rows PySem.Calls PySem.SeqAt
set_option Elab.async false
set_option maxRecDepth 100000
namespace Mine
def addP (P : List (List Int)) (x : List Int) : List (List Int) := if x ∈ P then P else P ++ [x]
/-- the letters of the part from i to j -/
def prt (ds : List Int) (i j : Nat) : List Int := ((ds.drop i).take (j - i)).map (65 + ·)
def rowP (ds : List Int) (i : Nat) (P : List (List Int)) (t : Nat) : List (List Int) := (List.range t).foldl (fun P k => addP P (prt ds i (i + 1 + k))) P
def allP (ds : List Int) (t : Nat) : List (List Int) := (List.range t).foldl (fun P i => rowP ds i P (ds.length - i)) []
theorem rowP_succ (ds : List Int) (i : Nat) (P : List (List Int)) (t : Nat) : rowP ds i P (t + 1) = addP (rowP ds i P t) (prt ds i (i + 1 + t)) := by
  unfold rowP; rw [List.range_succ, List.foldl_append]; rfl
theorem allP_succ (ds : List Int) (t : Nat) : allP ds (t + 1) = rowP ds t (allP ds t) (ds.length - t) := by
  unfold allP; rw [List.range_succ, List.foldl_append]; rfl
theorem addP_len (P : List (List Int)) (x : List Int) : (addP P x).length ≤ P.length + 1 := by
  unfold addP; split
  · omega
  · simp
theorem rowP_len (ds : List Int) (i : Nat) (P : List (List Int)) : ∀ t, (rowP ds i P t).length ≤ P.length + t
  | 0 => by simp [rowP]
  | t + 1 => by
    rw [rowP_succ]
    have := addP_len (rowP ds i P t) (prt ds i (i + 1 + t))
    have := rowP_len ds i P t
    omega
theorem allP_len (ds : List Int) : ∀ t, (allP ds t).length ≤ ds.length * t
  | 0 => by simp [allP]
  | t + 1 => by
    rw [allP_succ]
    have := rowP_len ds t (allP ds t) (ds.length - t)
    have := allP_len ds t
    rw [Nat.mul_succ]
    omega
/-- a list of lists of ints is none of its own items -/
theorem item_ne {h : Heap} {D : Addr} {vs : List Value} {v : Value} {ns : List Int} (pl : h.IsList D vs.toArray) (hv : v ∈ vs) (refs : ∀ y ∈ vs, ∃ a, y = .ref a) (il : IL h v ns) : v ≠ .ref D := by
  rintro rfl
  obtain ⟨a, us, ea, hl, hi⟩ := il
  cases ea
  obtain ⟨o, ho, _, n, hd⟩ := hl
  obtain ⟨o2, ho2, _, n2, hd2⟩ := pl
  rw [ho] at ho2; cases ho2; rw [hd] at hd2; cases hd2
  cases hi with
  | nil => cases hv
  | cons k t r =>
    obtain ⟨a, e⟩ := refs _ (.head _)
    cases e
theorem F2.refs {h : Heap} {vs : List Value} {pss : List (List Int)} (x : F2 (IL h) vs pss) : ∀ y ∈ vs, ∃ a, y = .ref a := by
  induction x with
  | nil => intro y hy; cases hy
  | cons r _ ih =>
    intro y hy
    rcases List.mem_cons.mp hy with rfl | hy
    · obtain ⟨a, _, e, _⟩ := r; exact ⟨a, e⟩
    · exact ih y hy
/-- the items stand when their list grows -/
theorem F2.grow {h h' : Heap} {D : Addr} {vs : List Value} {pss : List (List Int)} (pl : h.IsList D vs.toArray) (x : F2 (IL h) vs pss) (hs : Heap.SameBut D h h') : F2 (IL h') vs pss := by
  have key : ∀ {us : List Value} {qss : List (List Int)}, F2 (IL h) us qss → (∀ y ∈ us, y ∈ vs) → F2 (IL h') us qss := by
    intro us qss y
    induction y with
    | nil => intro _; exact .nil
    | @cons v ns as bs r _ ih =>
      intro hsub
      refine .cons ?_ (ih fun y hy => hsub y (.tail _ hy))
      have hne := item_ne pl (hsub v (.head _)) x.refs r
      obtain ⟨a, us, rfl, ⟨o, ho, hc, n, hd⟩, hi⟩ := r
      exact ⟨a, us, rfl, ⟨o, (hs.2 a fun z => hne (by rw [z])).trans ho, hc, n, hd⟩, hi⟩
  exact key x fun _ z => z
theorem IL.other {h h' : Heap} {D : Addr} {v : Value} {ns : List Int} (x : IL h v ns) (hs : Heap.SameBut D h h') (hne : v ≠ .ref D) : IL h' v ns := by
  obtain ⟨a, us, rfl, ⟨o, ho, hc, n, hd⟩, hi⟩ := x
  exact ⟨a, us, rfl, ⟨o, (hs.2 a fun z => hne (by rw [z])).trans ho, hc, n, hd⟩, hi⟩
section
variable {w : World} {A : Around} {E : Value → Shared → Prop} {s : Shared} {Q : Value → Shared → Prop} {mean : ExcName → Option Value} {mg mb : Str → Option Value} {N : Nat}
/-- what stands between the turns of _law_parts -/
def IP (g0 : Heap) (fv : Value) (D : Addr) (P : List (List Int)) (h : Heap) (m : Str → Option Value) : Prop :=
  m "figures" = some fv ∧ m "parts" = some (.ref D) ∧ g0.get? D = none ∧ ∃ vs, PL h D vs ∧ F2 (IL h) vs P
theorem IP.st {g0 : Heap} {fv : Value} {D : Addr} {P : List (List Int)} {h h' : Heap} {m m' : Str → Option Value} {x : Str} (hx : x ≠ "figures") (hx2 : x ≠ "parts") (i : IP g0 fv D P h m) (k : KS h h') (hm : ∀ y, y ≠ x → m' y = m y) : IP g0 fv D P h' m' := by
  obtain ⟨h1, h2, h3, vs, h4, h5⟩ := i
  exact ⟨(hm _ (Ne.symm hx)).trans h1, (hm _ (Ne.symm hx2)).trans h2, h3, vs, h4.ks k, h5.imp fun _ _ z => z.ks k⟩
theorem el65 {env : Env} {scope : Scope} {src : List Int} {px pc pd : Pos} {h1 : Heap} (hd : (compEnvC scope [] 0 env).kindOf "d" = some .local) (hk : scope.kind = .function) :
    ElOk w A env scope [] "d" (.BinOp (.Constant (.int 65) 0 pc) .Add (.Name "d" pd) px) src (65 + ·) h1 := by
  intro C a t s₃ m₃ E' _ hn hm _
  refine wpAny_BinOp (wpAny_Constant_int (wpAny_Name (wpAny_loadName_local (env := compEnvC scope [] C env) hk hd hn hm ?_) (by decide)))
  exact wpAny_add_int ⟨⟨_, rfl⟩, ⟨_, _, rfl, fun _ _ e => e⟩⟩
end
end Mine
end PartPRT2
section PartPRT3
open PySem PySem.W PyProof.Rows PySem.Calls PySem.SeqAt
set_option Elab.async false
set_option maxRecDepth 100000
namespace Mine
section
variable {w : World} {A : Around} {E : Value → Shared → Prop} {s : Shared} {Q : Value → Shared → Prop} {mean : ExcName → Option Value} {mg mb : Str → Option Value} {N : Nat}
theorem wLen {prog : Program} {h : Heap} {tk : Nat} {l : Addr} {vs : List Value} {Q : Value → Shared → Prop} (hl : h.IsList l vs.toArray) (hz : vs.length ≤ 16777216) (q : ∀ t tk', Q (.int (vs.length : Int) t) (St s h tk')) : wpAny (model prog w) A (call (.builtin "len") [.ref l]) Q E (St s h tk) :=
  PyProof.Rows.len_list (s := St s h tk) hl (by rw [List.size_toArray]; omega) (by rw [List.size_toArray]; exact q _ _)
set_option maxHeartbeats 8000000 in
theorem parts {fv : Value} {ds : List Int} (g : G w mean mg mb N s.heap) (hd : A.depth < recursionLimit) (hu : A.units + 100 < cLine) (hh : A.handled = none) (il : IL s.heap fv ds) (hz : ds.length ≤ 100)
    (hQ : ∀ v h' tk, Kp N s.heap h' → LL h' v (allP ds ds.length) → Q v (St s h' tk)) :
    wpAny (model prg w) A (call (.ref 70) [fv]) Q E s := by
  obtain ⟨l, fs0, rfl, hl0, hi0⟩ := il
  refine wpAny_call ?_
  refine call_plain_ret (binds := [("figures", .ref l)]) hd (g.X 70 _ rfl) rfl g.T.nolimit (codeRec_of g.X (by rfl)) rfl (locs rfl) ?_
  intro h₁ F
  have F := Fm.enter F g.low
  show wpAny _ _ _ _ _ (St s h₁ _)
  refine wA (wList (evs_nil (wNewP F (by simp) fun D h2 F2' k2 pl2 hDn => ?_)))
  have hDg := new_none F hDn
  refine wS F2' fun h3 tk3 F3 k3 => ?_
  have pl3 := pl2.kb F2'.ns k3
  have len : ∀ {h : Heap} {m : Str → Option Value}, Fm N s.heap s.heap.objs.size h m → ∃ vs, h.IsList l vs.toArray ∧ IntsAre vs ds ∧ vs.length = ds.length := fun F =>
    ⟨fs0, isList_kp hl0 F.kp, hi0, hi0.length⟩
  refine wpAny_execs_cons (forR (x := "i") (lo := 0) (n := ds.length) (fun t h m => IP s.heap (.ref l) D (allP ds t) h m) F3 hh (fun K hK => ?_) (by omega) (by omega) (by omega) (fun t h h' m m' i k hm => i.st (by decide) (by decide) k hm) ⟨rfl, rfl, hDg, [], pl3, .nil⟩ ?_ ?_ (fun _ => rfl))
  · obtain ⟨vs, hl, hi, hlen⟩ := len F3
    refine cN (wB F3 g (by kernel_rfl) boot_range (cwT (evs_cons (cN (wB F3 g (by kernel_rfl) boot_len (cwB (evs_cons (wL F3 rfl (evs_nil (wLen hl (by omega) fun t tk' => evs_nil ?_))))))))))
    refine callRange1 F3 fun r h' tk' t u v F' k' hr => ?_
    rw [hlen] at hr
    exact hK r h' tk' t u v F' k' (by rw [Int.zero_add]; exact hr)
  · intro t h m tk u K E' hlt F I hi kont
    obtain ⟨e1, e2, _, _, _, _⟩ := id I
    have hi' : m "i" = some (.int ((t : Nat) : Int) u) := by rw [hi, Int.zero_add]
    refine wpAny_execs_cons (forR (x := "j") (lo := (t : Int) + 1) (n := ds.length - t) (fun t' h m => IP s.heap (.ref l) D (rowP ds t (allP ds t) t') h m ∧ m "i" = some (.int ((t : Nat) : Int) u)) F hh (fun K hK => ?_) (by omega) (by omega) (by omega)
      (fun t' h h' m m' i k hm => ⟨i.1.st (by decide) (by decide) k hm, (hm _ (by decide)).trans i.2⟩) ⟨I, hi'⟩ ?_ ?_ (fun _ => rfl))
    · obtain ⟨vs, hl, hii, hlen⟩ := len F
      refine cN (wB F g (by kernel_rfl) boot_range (cwT (evs_cons (wpAny_BinOp (wL F hi' (wCI fun _ _ => wAddI fun _ _ => evs_cons (wpAny_BinOp (cN (wB F g (by kernel_rfl) boot_len (cwB (evs_cons (wL F e1 (evs_nil (wLen hl (by omega) fun _ tk' => wCI fun _ _ => wAddI fun _ _ => evs_nil ?_))))))))))))))
      refine callRange2 F fun r h' tk' t1 u1 v1 F' k' hr => ?_
      rw [hlen] at hr
      exact hK r h' tk' t1 u1 v1 F' k' (by rw [show (t : Int) + 1 + ((ds.length - t : Nat) : Int) = (ds.length : Int) + 1 by omega]; exact hr)
    · intro t' h m tk u' K E' hlt' F I hj kont'
      obtain ⟨⟨e1, e2, _, vs, pl, hf⟩, ei⟩ := I
      have hj' : m "j" = some (.int ((t + 1 + t' : Nat) : Int) u') := by rw [hj]; congr 2
      obtain ⟨fs, hl, hii, hlen⟩ := len F
      have hsrc : IntsAre ((fs.drop t).take (t + 1 + t' - t)) ((ds.drop t).take (t + 1 + t' - t)) := (hii.drop t).take _
      refine wpAny_execs_cons (compA (N := N) (g0 := s.heap) (m := m) (src := (ds.drop t).take (t + 1 + t' - t)) (f := (65 + ·)) (cl := []) rfl hh (by rfl) (by rfl) (by decide) rfl (by decide) (by rfl) (by rw [List.length_take, List.length_drop]; omega) (by rfl) (by rfl) (fun K hK => ?_) (fun h1 _ _ => el65 (by rfl) rfl) (fun D' ys h5 tk5 F5 k5 l5 hD'n i5 => ?_))
      · refine Subscript_ (wL F e1 (wpAny_Slice (evalPart_some_step (wL F ei (evalPart_some_step (wL F hj' (evalPart_none_step ?_)))))))
        refine wCut F hl (by omega) (by omega) (by omega) fun c h' F' k' l' => ?_
        exact hK c _ h' _ F' k' l' hsrc
      · have hz5 : (allP ds t).length ≤ 10000 := by
          have := allP_len ds t
          have : ds.length * t ≤ 100 * 100 := Nat.mul_le_mul hz (by omega)
          omega
        have hz6 := rowP_len ds t (allP ds t) t'
        have hvl := hf.length
        have pl5 := pl.kb F.ns k5
        have hf5 : F2 (IL h5) vs (rowP ds t (allP ds t) t') := hf.imp fun _ _ z => z.kb F.ns k5
        have il5 : IL h5 (.ref D') (prt ds t (t + 1 + t')) := ⟨D', ys, rfl, l5, i5⟩
        have hD'D : D' ≠ D := fun z => by
          obtain ⟨n, e⟩ := pl
          rw [z, e] at hD'n; cases hD'n
        have kf5 := KF.kb F.ns k5
        refine wpAny_execs_cons (wpAny_If (wpAny_isTrue_Compare1 (wL F5 rfl (wL F5 e2 (notInLL pl5.isList hf5 il5 (by show A.units + 3 + 66 < _; omega) (wpAny_truthy_bool ?_)))) rfl))
        by_cases hmem : prt ds t (t + 1 + t') ∈ rowP ds t (allP ds t) t'
        · refine iteF (by rw [decide_eq_true hmem]; rfl) (wpAny_execs_nil (wpAny_execs_nil ?_))
          refine kont' h5 _ tk5 F5 kf5 ⟨⟨e1, e2, hDg, vs, pl5, ?_⟩, ei⟩
          rw [rowP_succ]
          unfold addP
          rw [if_pos hmem]
          exact hf5
        · refine iteT (by rw [decide_eq_false hmem]; rfl) ?_
          refine wMeth F5 e2 pl5 PySem.F.slot_list_append (by rfl) (wL F5 rfl ?_)
          refine callApp pl5 (by omega) fun h6 hs6 pl6 => wpAny_execs_nil (wpAny_execs_nil ?_)
          have hDL : D ≠ s.heap.objs.size := isList_ne pl5.isList F5.ns
          have F6 := frU F5 hs6 hDL hDg
          refine kont' h6 _ tk5 F6 (kf5.trans (KF.seq pl5 hs6)) ⟨⟨e1, e2, hDg, _, pl6, ?_⟩, ei⟩
          rw [rowP_succ]
          unfold addP
          rw [if_neg hmem]
          exact (F2.grow pl5.isList hf5 hs6).append (.cons (il5.other hs6 fun z => hD'D (Value.ref.inj z)) .nil)
    · intro h' m' tk' F' kf' I'
      refine wpAny_execs_nil (kont h' m' tk' F' kf' ?_)
      rw [allP_succ]
      exact I'.1
  · intro h' m' tk' F' kf' I'
    obtain ⟨e1, e2, _, vs, pl, hf⟩ := I'
    refine wpAny_execs_cons (wpAny_Return_some (wL F' e2 ?_))
    exact hQ _ _ _ F'.kp ⟨D, vs, rfl, pl.isList, hf⟩
end
end Mine
end PartPRT3
section PartP2
open PySem PySem.W PyProof.Rows PySem.Calls
set_option Elab.async false
set_option maxRecDepth 100000
namespace Mine
theorem revInd {α : Type} {P : List α → Prop} (h0 : P []) (h1 : ∀ l a, P l → P (l ++ [a])) (l : List α) : P l := by
  have key : ∀ l : List α, P l.reverse := by
    intro l
    induction l with
    | nil => exact h0
    | cons a l ih => rw [List.reverse_cons]; exact h1 _ _ ih
  have := key l.reverse
  rwa [List.reverse_reverse] at this
/-- a number by its figures to the base 16 -/
def val (ds : List Nat) : Nat := ds.foldl (fun n d => 16 * n + d) 0
def Dg (ds : List Nat) : Prop := ∀ d ∈ ds, 1 ≤ d ∧ d ≤ 3
def Lt (ds : List Nat) : List Int := ds.map fun (d : Nat) => (65 + d : Int)
theorem val_snoc (ds : List Nat) (d : Nat) : val (ds ++ [d]) = 16 * val ds + d := by unfold val; rw [List.foldl_append]; rfl
theorem val_app (a : List Nat) : ∀ b : List Nat, val (a ++ b) = val a * 16 ^ b.length + val b := by
  intro b
  induction b using revInd with
  | h0 => simp [val]
  | h1 b d ih =>
    rw [← List.append_assoc, val_snoc, val_snoc, ih, List.length_append, List.length_singleton, Nat.pow_succ, Nat.mul_add, ← Nat.mul_assoc 16, Nat.mul_comm 16 (val a), Nat.mul_assoc, Nat.mul_comm (16 ^ b.length) 16]
    omega
theorem val_lt : ∀ b : List Nat, Dg b → val b < 16 ^ b.length := by
  intro b
  induction b using revInd with
  | h0 => intro _; simp [val]
  | h1 b d ih =>
    intro h
    have h1 := ih fun x hx => h x (List.mem_append_left _ hx)
    have h2 := h d (by simp)
    rw [val_snoc, List.length_append, List.length_singleton, Nat.pow_succ]
    omega
theorem hexd_val : ∀ b : List Nat, Dg b → hexd (val b) = b := by
  intro b
  induction b using revInd with
  | h0 => intro _; exact hexd_zero
  | h1 b d ih =>
    intro h
    have h1 := ih fun x hx => h x (List.mem_append_left _ hx)
    have h2 := h d (by simp)
    rw [val_snoc, hexd_pos (by omega), show (16 * val b + d) / 16 = val b by omega, show (16 * val b + d) % 16 = d by omega, h1]
theorem lets_val {b : List Nat} (h : Dg b) : lets (val b) = Lt b := by unfold lets Lt; rw [hexd_val b h]
theorem begs_val : ∀ b : List Nat, Dg b → begs (val b) = pre (Lt b) := by
  intro b
  induction b using revInd with
  | h0 => intro _; exact begs_zero
  | h1 b d ih =>
    intro h
    have h1 := ih fun x hx => h x (List.mem_append_left _ hx)
    have h2 := h d (by simp)
    have h3 := lets_val h
    rw [val_snoc] at h3 ⊢
    rw [begs_pos (by omega), show (16 * val b + d) / 16 = val b by omega, h1, h3]
    unfold Lt
    rw [List.map_append, List.map_singleton, pre_snoc]
theorem Dg.drop {ds : List Nat} (h : Dg ds) (k : Nat) : Dg (ds.drop k) := fun d hd => h d (List.mem_of_mem_drop hd)
theorem val_mod {ds : List Nat} (h : Dg ds) {k : Nat} (hk : k ≤ ds.length) : val ds % 16 ^ k = val (ds.drop (ds.length - k)) := by
  have e : ds = ds.take (ds.length - k) ++ ds.drop (ds.length - k) := (List.take_append_drop _ _).symm
  have hl : (ds.drop (ds.length - k)).length = k := by rw [List.length_drop]; omega
  have e2 : val ds = val (ds.take (ds.length - k)) * 16 ^ k + val (ds.drop (ds.length - k)) := by
    conv => lhs; rw [e]
    rw [val_app, hl]
  have hlt := val_lt _ (h.drop (ds.length - k))
  rw [hl] at hlt
  rw [e2, Nat.mul_comm, Nat.mul_add_mod, Nat.mod_eq_of_lt hlt]
theorem Lt_len (ds : List Nat) : (Lt ds).length = ds.length := by simp [Lt]
theorem Lt_lo {ds : List Nat} (h : Dg ds) : Lo (Lt ds) := fun a ha => by
  obtain ⟨d, hd, rfl⟩ := List.mem_map.mp ha
  have := h d hd
  omega
/-- one step of the fold -/
def stepP (x : List (List Int) × List (List Int) × List Int) (t : List Int) : List (List Int) × List (List Int) × List Int :=
  (x.1 ++ (pre t).drop (lcp x.2.2 t), x.2.1 ++ ((pre x.2.2).drop (lcp x.2.2 t)).reverse, t)
def runP (ts : List (List Int)) : List (List Int) × List (List Int) × List Int := ts.foldl stepP ([], [], [])
theorem runP_snoc (ts : List (List Int)) (t : List Int) : runP (ts ++ [t]) = stepP (runP ts) t := by unfold runP; rw [List.foldl_append]; rfl
theorem runP_last (ts : List (List Int)) (t : List Int) : (runP (ts ++ [t])).2.2 = t := by rw [runP_snoc]; rfl
theorem runP_inv : ∀ ts : List (List Int), ts.Pairwise (fun x y => ltL x y = true) → (∀ t ∈ ts, t ≠ [] ∧ Lo t) → Inv ts (runP ts).2.2 (runP ts).1 (runP ts).2.1 ∧ Lo (runP ts).2.2 ∧ ∀ t, (∀ u ∈ ts, ltL u t = true) → t ≠ [] → ltL (runP ts).2.2 t = true := by
  intro ts
  induction ts using revInd with
  | h0 => intro _ _; exact ⟨Inv.first, fun _ h => (nomatch h), fun t _ ht => by cases t with | nil => exact absurd rfl ht | cons => rfl⟩
  | h1 ts t ih =>
    intro hp hl
    rw [List.pairwise_append] at hp
    obtain ⟨I, hlo, hlt⟩ := ih hp.1 fun u hu => hl u (List.mem_append_left _ hu)
    have ht := hl t (by simp)
    have h1 := hlt t (fun u hu => hp.2.2 u hu t (by simp)) ht.1
    refine ⟨?_, ?_, ?_⟩
    · rw [runP_snoc]; exact I.step h1 hlo
    · rw [runP_last]; exact ht.2
    · intro u hu hne; rw [runP_last]; exact hu t (by simp)
theorem runP_len : ∀ (ts : List (List Int)) (c : Nat), (∀ t ∈ ts, t.length ≤ c) → (runP ts).1.length ≤ ts.length * c ∧ (runP ts).2.1.length ≤ ts.length * c ∧ (runP ts).2.2.length ≤ c := by
  intro ts c
  induction ts using revInd with
  | h0 => intro _; simp [runP]
  | h1 ts t ih =>
    intro h
    obtain ⟨h1, h2, h3⟩ := ih fun u hu => h u (List.mem_append_left _ hu)
    have ht := h t (by simp)
    rw [runP_snoc, List.length_append, List.length_singleton, Nat.succ_mul]
    refine ⟨?_, ?_, ht⟩
    · show ((runP ts).1 ++ (pre t).drop _).length ≤ _
      rw [List.length_append, List.length_drop, pre_len]; omega
    · show ((runP ts).2.1 ++ ((pre (runP ts).2.2).drop _).reverse).length ≤ _
      rw [List.length_append, List.length_reverse, List.length_drop, pre_len]; omega
/-- what the step asks of two tails, one behind the other -/
theorem step_facts {cur t : List Int} (h : ltL cur t = true) : lcp cur t < (pre t).length ∧ lcp cur t ≤ (pre cur).length ∧ (∀ i, i < lcp cur t → (pre t).getD i [] = (pre cur).getD i []) ∧
    (∀ j, lcp cur t ≤ j → j < (pre cur).length → ltL ((pre cur).getD j []) ((pre t).getD (lcp cur t) []) = true) := by
  obtain ⟨c, b, t', ht, hk, hx⟩ := lcp_spec h
  rw [hk, pre_len, pre_len]
  have hc : c.length ≤ cur.length := by
    rcases hx with hx | ⟨a, x', hx, _⟩
    · rw [hx]; exact Nat.le_refl _
    · rw [hx, List.length_append]; omega
  have htl : c.length < t.length := by rw [ht, List.length_append, List.length_cons]; omega
  refine ⟨htl, hc, fun i hi => ?_, fun j hj hjl => ?_⟩
  · rw [pre_getD (by omega), pre_getD (by omega)]
    have e1 : t.take (i + 1) = c.take (i + 1) := by rw [ht, List.take_append_of_le_length (by omega)]
    have e2 : cur.take (i + 1) = c.take (i + 1) := by
      rcases hx with hx | ⟨a, x', hx, _⟩
      · rw [hx]
      · rw [hx, List.take_append_of_le_length (by omega)]
    rw [e1, e2]
  · rw [pre_getD hjl, pre_getD htl]
    rcases hx with hx | ⟨a, x', hx, hab⟩
    · rw [hx] at hjl; omega
    · have e1 : t.take (c.length + 1) = c ++ [b] := by rw [ht, List.take_append, List.take_of_length_le (by omega), show c.length + 1 - c.length = 1 by omega]; rfl
      obtain ⟨r, hr⟩ : ∃ r, j + 1 - c.length = r + 1 := ⟨j - c.length, by omega⟩
      have e2 : cur.take (j + 1) = c ++ (a :: x'.take r) := by rw [hx, List.take_append, List.take_of_length_le (by omega), hr]; rfl
      rw [e1, e2, lt_app]
      simp only [ltL]
      rw [if_neg (by omega)]
      simpa using hab
theorem pre_diff (t : List Int) : ∀ i, i + 1 < (pre t).length → (pre t).getD (i + 1) [] ≠ (pre t).getD i [] := by
  intro i hi
  rw [pre_len] at hi
  rw [pre_getD hi, pre_getD (by omega)]
  intro e
  have := congrArg List.length e
  rw [List.length_take, List.length_take] at this
  omega
/-- the sorted list is the one that rises and has the same members -/
theorem sorted_is {P X : List (List Int)} {lt : List Int → List Int → Bool} {p : Array Nat} {n : Nat} (hn : P.length = n) (hp : Pm n p) (ha : Asc (fun i j => lt (P.getD i []) (P.getD j [])) p n) (hX : X.Pairwise fun x y => lt x y = true) (hm : ∀ x, x ∈ X ↔ x ∈ P)
    (irr : ∀ x, lt x x = false) (tr : ∀ x y z, lt x y = true → lt y z = true → lt x z = true) : X = p.toList.map fun i => P.getD i [] := by
  subst hn
  have hs := hp.size
  refine uniq (R := fun x y => lt x y = true) (fun x h => by rw [irr] at h; cases h) tr hX ?_ fun x => ?_
  · rw [List.pairwise_map, List.pairwise_iff_getElem]
    intro i j hi hj hij
    rw [Array.length_toList] at hi hj
    have e1 : p.toList[i] = p.getD i 0 := by simp [Array.getD, hi]
    have e2 : p.toList[j] = p.getD j 0 := by simp [Array.getD, hj]
    rw [e1, e2]
    exact ha i j hij (by omega)
  · rw [hm, List.mem_map]
    constructor
    · intro hx
      obtain ⟨i, hi⟩ := List.mem_iff_getElem?.mp hx
      have hil : i < P.length := by
        apply Nat.lt_of_not_le; intro z; rw [List.getElem?_eq_none z] at hi; cases hi
      refine ⟨i, ?_, by simp [List.getD, hi]⟩
      rw [Array.mem_toList_iff]
      exact (Array.Perm.mem_iff hp).mpr (by simpa using hil)
    · rintro ⟨i, hi, rfl⟩
      rw [Array.mem_toList_iff] at hi
      have hil : i < P.length := by simpa using (Array.Perm.mem_iff hp).mp hi
      simp [List.getD, hil]
theorem lt9_irr (x : List Int) : lt9 x x = false := lt_irr _
theorem lt9_tr (x y z : List Int) : lt9 x y = true → lt9 y z = true → lt9 x z = true := lt_tr
theorem lt9_tot {x y : List Int} (h : x ≠ y) : lt9 x y = true ∨ lt9 y x = true := lt_tot fun e => h (List.append_cancel_right e)
theorem mem_addP {P : List (List Int)} {x y : List Int} : y ∈ addP P x ↔ y ∈ P ∨ y = x := by
  unfold addP
  split
  · rename_i h
    constructor
    · exact .inl
    · rintro (h1 | rfl)
      · exact h1
      · exact h
  · simp
theorem nodup_addP {P : List (List Int)} {x : List Int} (h : P.Nodup) : (addP P x).Nodup := by
  unfold addP
  split
  · exact h
  · rename_i hx
    rw [List.nodup_append]
    refine ⟨h, by simp, ?_⟩
    intro a ha b hb
    rw [List.mem_singleton] at hb
    subst hb
    exact fun e => hx (e ▸ ha)
theorem mem_rowP {ds : List Int} {i : Nat} {P : List (List Int)} {y : List Int} : ∀ t, y ∈ rowP ds i P t ↔ y ∈ P ∨ ∃ k, k < t ∧ y = prt ds i (i + 1 + k)
  | 0 => by simp [rowP]
  | t + 1 => by
    rw [rowP_succ, mem_addP, mem_rowP t]
    constructor
    · rintro ((h | ⟨k, hk, e⟩) | e)
      · exact .inl h
      · exact .inr ⟨k, by omega, e⟩
      · exact .inr ⟨t, by omega, e⟩
    · rintro (h | ⟨k, hk, e⟩)
      · exact .inl (.inl h)
      · by_cases hkt : k = t
        · subst hkt; exact .inr e
        · exact .inl (.inr ⟨k, by omega, e⟩)
theorem nodup_rowP {ds : List Int} {i : Nat} {P : List (List Int)} (h : P.Nodup) : ∀ t, (rowP ds i P t).Nodup
  | 0 => by simpa [rowP] using h
  | t + 1 => by rw [rowP_succ]; exact nodup_addP (nodup_rowP h t)
theorem mem_allP {ds : List Int} {y : List Int} : ∀ t, y ∈ allP ds t ↔ ∃ i, i < t ∧ ∃ k, k < ds.length - i ∧ y = prt ds i (i + 1 + k)
  | 0 => by simp [allP]
  | t + 1 => by
    rw [allP_succ, mem_rowP, mem_allP t]
    constructor
    · rintro (⟨i, hi, h⟩ | h)
      · exact ⟨i, by omega, h⟩
      · exact ⟨t, by omega, h⟩
    · rintro ⟨i, hi, h⟩
      by_cases hit : i = t
      · subst hit; exact .inr h
      · exact .inl ⟨i, by omega, h⟩
theorem nodup_allP {ds : List Int} : ∀ t, (allP ds t).Nodup
  | 0 => by simp [allP]
  | t + 1 => by rw [allP_succ]; exact nodup_rowP (nodup_allP t) _
theorem allP_len2 (ds : List Int) : ∀ t, (allP ds t).length ≤ (List.range t).foldl (fun s i => s + (ds.length - i)) 0
  | 0 => by simp [allP]
  | t + 1 => by
    rw [allP_succ, List.range_succ, List.foldl_append]
    have := rowP_len ds t (allP ds t) (ds.length - t)
    have := allP_len2 ds t
    show _ ≤ (List.range t).foldl (fun s i => s + (ds.length - i)) 0 + (ds.length - t)
    omega
theorem allP_lt64 {ds : List Int} (h : ds.length ≤ 8) : (allP ds ds.length).length < 64 := by
  have h1 := allP_len2 ds ds.length
  have h2 : ∀ n, n ≤ 8 → (List.range n).foldl (fun s i => s + (n - i)) 0 < 64 := by decide
  have := h2 ds.length h
  omega
theorem prt_len {ds : List Int} {i j : Nat} (hij : i ≤ j) (hj : j ≤ ds.length) : (prt ds i j).length = j - i := by
  unfold prt; rw [List.length_map, List.length_take, List.length_drop]; omega
theorem allP_two {ds : List Int} (h : 2 ≤ ds.length) : 2 ≤ (allP ds ds.length).length := by
  have m1 : prt ds 0 1 ∈ allP ds ds.length := (mem_allP _).mpr ⟨0, by omega, 0, by omega, rfl⟩
  have m2 : prt ds 0 2 ∈ allP ds ds.length := (mem_allP _).mpr ⟨0, by omega, 1, by omega, rfl⟩
  have hne : prt ds 0 1 ≠ prt ds 0 2 := fun e => by
    have := congrArg List.length e
    rw [prt_len (by omega) (by omega), prt_len (by omega) (by omega)] at this
    omega
  match hP : allP ds ds.length with
  | [] => rw [hP] at m1; cases m1
  | [x] =>
    rw [hP, List.mem_singleton] at m1 m2
    exact absurd (m1.trans m2.symm) hne
  | _ :: _ :: _ => simp
/-- the parts are the beginnings of the tails -/
theorem parts_tails {ds : List Nat} {x : List Int} : x ∈ allP (ds.map fun (d : Nat) => (d : Int)) ds.length ↔ ∃ i, i < ds.length ∧ x ≠ [] ∧ x <+: Lt (ds.drop i) := by
  rw [mem_allP]
  have hl : (ds.map fun (d : Nat) => (d : Int)).length = ds.length := by simp
  have key : ∀ i k, prt (ds.map fun (d : Nat) => (d : Int)) i (i + 1 + k) = (Lt (ds.drop i)).take (k + 1) := fun i k => by
    unfold prt Lt
    rw [show i + 1 + k - i = k + 1 by omega, ← List.map_drop, ← List.map_take, ← List.map_take, List.map_map]
    rfl
  constructor
  · rintro ⟨i, hi, k, hk, e⟩
    rw [hl] at hk
    rw [key] at e
    refine ⟨i, hi, fun z => ?_, by rw [e]; exact List.take_prefix _ _⟩
    have := congrArg List.length (e.symm.trans z)
    rw [List.length_take, Lt_len, List.length_drop, List.length_nil] at this
    omega
  · rintro ⟨i, hi, hne, hpre⟩
    have h1 := hpre.length_le
    rw [Lt_len, List.length_drop] at h1
    have h0 : 0 < x.length := List.length_pos_iff.mpr hne
    refine ⟨i, hi, x.length - 1, by rw [hl]; omega, ?_⟩
    rw [key, show x.length - 1 + 1 = x.length by omega]
    exact List.prefix_iff_eq_take.mp hpre
end Mine
end PartP2
section PartLF1
open PySem PySem.W PyProof.Rows PySem.Calls
set_option Elab.async false
set_option maxRecDepth 100000
namespace Mine
/-- the names of law -/
def lawN : List (Str × NameKind) := [(Str.ofString "script", .local), (Str.ofString "figures", .local), (Str.ofString "number", .cell), (Str.ofString "order", .local), (Str.ofString "tails", .local), (Str.ofString "ends", .local), (Str.ofString "parts", .local),
  (Str.ofString "reduce", .globalImplicit), (Str.ofString "cmp_to_key", .globalImplicit), (Str.ofString "sorted", .globalImplicit), (Str.ofString "range", .globalImplicit), (Str.ofString "len", .globalImplicit), (Str.ofString "_law_step", .globalImplicit), (Str.ofString "_law_parts", .globalImplicit)]
abbrev lawEnv (nm : Str) (mr : List (Str × Const)) (L fa : Addr) : Env := envX nm { kind := .function, names := lawN, isGenerator := false, isCoroutine := false, more := mr } L fa (.ref 74) [(Str.ofString "number", L + 1)]
section
variable {M : Model} {w : World} {A : Around} {E : Value → Shared → Prop} {s : Shared} {h : Heap} {tk : Nat} {N : Nat} {g0 : Heap} {L fa : Addr} {m : Str → Option Value} {nm : Str} {mr : List (Str × Const)} {mean : ExcName → Option Value} {mg mb : Str → Option Value}
theorem xL {x : Str} {pos : Pos} {v : Value} {Q : Value → Shared → Prop} (F : Fm N g0 L h m) (hv : m x = some v) (q : Q v (St s h tk)) (hl : lawN.lookup x = some .local := by rfl) (hd : (x == ("__debug__" : Str)) = false := by decide) :
    wpAny M A (eval (.Name x pos) (lawEnv nm mr L fa)) Q E (St s h tk) := wLe F.ns hv q rfl hl hd
theorem xG {x : Str} {pos : Pos} {v : Value} {Q : Value → Shared → Prop} (F : Fm N g0 L h m) (g : G w mean mg mb N g0) (e : nsIn (hd.heap_39 w.params) mainGlobals x = some (some v)) (q : Q v (St s h tk))
    (hx : lawN.lookup x = some .globalImplicit := by rfl) (hdb : (x == ("__debug__" : Str)) = false := by decide) :
    wpAny M A (eval (.Name x pos) (lawEnv nm mr L fa)) Q E (St s h tk) :=
  Name_function_global (env := lawEnv nm mr L fa) rfl hx (loadGlobal_global (env := lawEnv nm mr L fa) (s := St s h tk) (mg := mg) (g.fm F).T.g (mg_of g.X g.T.g e) q) hdb
theorem xB {x : Str} {pos : Pos} {v : Value} {Q : Value → Shared → Prop} (F : Fm N g0 L h m) (g : G w mean mg mb N g0) (e : nsIn (hd.heap_39 w.params) mainGlobals x = some none) (hv : bootBuiltins x = some v) (q : Q v (St s h tk))
    (hx : lawN.lookup x = some .globalImplicit := by rfl) (hdb : (x == ("__debug__" : Str)) = false := by decide) (hnn : x ≠ "__name__" := by decide) :
    wpAny M A (eval (.Name x pos) (lawEnv nm mr L fa)) Q E (St s h tk) :=
  Name_function_global (env := lawEnv nm mr L fa) rfl hx (loadGlobal_builtin (env := lawEnv nm mr L fa) (s := St s h tk) (mg := mg) (mb := mb) (g.fm F).T.g (mg_none_of g.X g.T.g e) (g.fm F).T.b ((g.T.builtins x hnn).trans hv) q) hdb
theorem xS {x : Str} {v : Value} {Q : Unit → Shared → Prop} (F : Fm N g0 L h m) (q : ∀ h' tk', Fm N g0 L h' (fun y => if y = x then some v else m y) → KB N L h h' → Q () (St s h' tk')) (hl : lawN.lookup x = some .local := by rfl) :
    wpAny M A (storeName (lawEnv nm mr L fa) x v) Q E (St s h tk) :=
  wpAny_storeName_local (env := lawEnv nm mr L fa) (s := St s h tk) hl F.ns (fun h' hn hs => q h' _ (F.set hn hs) (KB.sameBut hs)) rfl
/-- number = v -/
theorem xC {v : Value} {v₀ : Option Value} {Q : Unit → Shared → Prop} (F : Fm N g0 L h m) (hg : g0.get? (L + 1) = none) (hc : h.IsCell (L + 1) v₀)
    (q : ∀ h', Fm N g0 L h' m → Heap.SameBut (L + 1) h h' → h'.IsCell (L + 1) (some v) → Q () (St s h' tk)) :
    wpAny M A (storeName (lawEnv nm mr L fa) "number" v) Q E (St s h tk) :=
  wpAny_storeName_cell (env := lawEnv nm mr L fa) (s := St s h tk) rfl rfl rfl hc fun h' hv hs => q h' (frU F hs (Nat.succ_ne_self L) hg) hs hv
/-- a lambda made in law -/
theorem wLam {params : Arguments} {body : Expr} {scope : Scope} {pos : Pos} {ps : Array Value} {Q : Value → Shared → Prop} (F : Fm N g0 L h m) (g : G w mean mg mb N g0) (C : CodeHd h 74 72) (hP : h.get? 72 = some (tabObj ps)) (hg72 : g0.get? 72 = none)
    (ht : TriplesOk ps.toList) (hnf : codeAmong pos ps.toList = none) (hcl : closureFor scope (lawEnv nm mr L fa) = pure []) (hdef : defaultsOf params (lawEnv nm mr L fa) = ([], []))
    (q : ∀ l c ct h' tk', Fm N g0 L h' m → Heap.ExtBut 72 h h' → h'.get? 72 = some (tabObj (ps ++ #[rawInt pos.line, rawInt pos.col, .ref c])) →
      h'.get? l = some (kla_obj "<lambda>" (nm ++ ".<locals>." ++ "<lambda>") params body scope [] ((mg "__name__").getD .none) c ct) → h'.CodeRec (.ref c) (nm ++ ".<locals>." ++ "<lambda>") → Q (.ref l) (St s h' tk')) :
    wpAny M A (eval (.Lambda params body scope pos) (lawEnv nm mr L fa)) Q E (St s h tk) := by
  have gh := g.fm F
  obtain ⟨bm, ob, b1, b2, b3, b4, b5, b6⟩ := gh.T.bmain
  have ne72 : ∀ {b : Addr} {o : Obj}, h.get? b = some o → o.data ≠ .fields ps → b ≠ 72 := fun e hd z => by
    rw [z, hP] at e; cases e; exact hd rfl
  have hgs : h.Ns mainGlobals mg := gh.T.g
  have hgP : mainGlobals ≠ 72 := by decide
  have hbG : bm ≠ mainGlobals := fun q => by
    obtain ⟨o, es, ep, e, hd, _⟩ := hgs
    rw [q, e] at b3; cases b3; rw [hd] at b6; cases b6
  have hbP : bm ≠ 72 := ne72 b3 (by rw [b6]; intro z; cases z)
  have L72 : (72 : Addr) ≠ L := fun z => by
    obtain ⟨o, es, ep, e, hd, _⟩ := F.ns
    rw [← z, hP] at e; cases e; cases hd
  refine kla_eval hdef (kla_makeFunction (s := St s h tk) (mg := mg) hcl rfl hgs rfl C hP ht hnf hgP ⟨bm, ob, b1, b2, hbG, hbP, b3, b4, b5, b6⟩ fun c ct h' tk' hx hge hlt hrec htb => ?_)
  have hx2 : Heap.ExtBut 72 h (h'.push (kla_obj "<lambda>" (nm ++ ".<locals>." ++ "<lambda>") params body scope [] ((mg "__name__").getD .none) c ct)) := fun b o hb e => Heap.get?_push_of_some _ (hx b o hb e)
  exact q h'.objs.size c ct _ tk' (frE F hx2 L72 hg72) hx2 (Heap.get?_push_of_some _ htb) (Heap.get?_push_size _ rfl) (hrec.push _)
end
end Mine
end PartLF1
section PartLF2
open PySem PySem.W PyProof.Rows PySem.Calls
set_option Elab.async false
set_option maxRecDepth 100000
namespace Mine
/-- the figures of a script -/
def figs (ns : List Int) : List Int := (ns.take 5).map (fun x => 1 + x.fmod 3) ++ [2, 1, 2]
section
variable {w : World} {A : Around} {E : Value → Shared → Prop} {s : Shared} {h : Heap} {tk : Nat} {N : Nat} {g0 : Heap} {L fa : Addr} {m : Str → Option Value} {nm : Str} {mr : List (Str × Const)} {mean : ExcName → Option Value} {mg mb : Str → Option Value}
/-- xs[:k] -/
theorem wUpto {prog : Program} {Q : Value → Shared → Prop} {hi : PySem.Expr} {x : Str} {p xp : Pos} {l : Addr} {vs : List Value} {k : Nat} {u : Tok} (F : Fm N g0 L h m) (hl : h.IsList l vs.toArray) (hz : vs.length ≤ 16777216)
    (q : ∀ c h', Fm N g0 L h' m → KB N L h h' → h'.IsList c (vs.take k).toArray → Q (.ref c) (St s h' tk)) :
    wpAny (model prog w) A (subscriptTail (.Name x xp) (.Slice none (some hi) none p) (.ref l) (.ref h.objs.size)) Q E (St s (h.push { cls := .type "slice", data := .fields #[.none, .int (k : Int) u, .none] }) tk) := by
  refine slice_list (s := St s h tk) (m := m) F.fr (allNews_news _ L h) hl .none (.int _ _) (fun h' F' N' => ?_) rfl (fun _ => rfl) (by rw [List.size_toArray, sizeLine_eq]; exact hz)
  obtain ⟨F1, k1⟩ := kb_of1 F F' N'
  have e := (N' _ (.head _)).1
  rw [slicePick_upto'] at e
  exact q _ h' F1 k1 ⟨_, e, rfl, 0, rfl⟩
theorem el13 {env : Env} {scope : Scope} {src : List Int} {p1 p2 p3 p4 p5 : Pos} {h1 : Heap} (hd : (compEnvC scope [] 0 env).kindOf "x" = some .local) (hk : scope.kind = .function) :
    ElOk w A env scope [] "x" (.BinOp (.Constant (.int 1) 0 p1) .Add (.BinOp (.Name "x" p2) .Mod (.Constant (.int 3) 0 p3) p4) p5) src (fun x => 1 + x.fmod 3) h1 := by
  intro C a t s₃ m₃ E' _ hn hm _
  refine wpAny_BinOp (wpAny_Constant_int (wpAny_BinOp (wpAny_Name (wpAny_loadName_local (env := compEnvC scope [] C env) hk hd hn hm (wpAny_Constant_int (PyProof.Rows.mod_int (by decide) ?_))) (by decide))))
  exact wpAny_add_int ⟨⟨_, rfl⟩, ⟨_, _, rfl, fun _ _ e => e⟩⟩
set_option maxHeartbeats 2000000 in
theorem law0 {rest : List Stmt} {Q : Flow → Shared → Prop} {p1 p2 p3 p4 p5 p6 p7 p8 p9 p10 p11 p12 p13 p14 p15 p16 p17 p18 : Pos} {sl : Addr} {vs : List Value} {ns : List Int} (F : Fm N g0 L h m) (hh : A.handled = none) (hs : m "script" = some (.ref sl)) (hl : g0.IsList sl vs.toArray) (hi : IntsAre vs ns) (hz : ns.length ≤ 63)
    (q : ∀ D ys h' tk', Fm N g0 L h' (fun y => if y = "figures" then some (.ref D) else m y) → KB N L h h' → h'.IsList D (List.toArray ys) → IntsAre ys (figs ns) → wpAny (model prg w) A (execs rest (lawEnv nm mr L fa)) Q E (St s h' tk')) :
    wpAny (model prg w) A (execs (.Assign [.Name "figures" p1] (.BinOp (.ListComp (.BinOp (.Constant (.int 1) 0 p2) .Add (.BinOp (.Name "x" p3) .Mod (.Constant (.int 3) 0 p4) p5) p6) [⟨.Name "x" p7, .Subscript (.Name "script" p8) (.Slice none (some (.Constant (.int 5) 0 p9)) none p10) p11, [], 0⟩]
      { kind := .function, names := [(Str.ofString ".0", .local), (Str.ofString "x", .local)], isGenerator := false, isCoroutine := false } p12) .Add (.List [.Constant (.int 2) 0 p13, .Constant (.int 1) 0 p14, .Constant (.int 2) 0 p15] p16) p17) p18 :: rest) (lawEnv nm mr L fa)) Q E (St s h tk) := by
  have hl1 := isList_kp hl F.kp
  have hzv := hi.length
  refine wA (wpAny_BinOp (compL (N := N) (g0 := g0) (L := L) (m := m) (src := ns.take 5) (f := fun x => 1 + x.fmod 3) (cl := []) hh (by rfl) (by decide) rfl (by decide) (by rfl) (by rw [List.length_take]; omega) (fun K hK => ?_) (fun h1 _ _ => el13 (by rfl) rfl) fun D ys h' tk' F' k' l' i' => ?_)) (by rfl)
  · refine Subscript_ (xL F hs (wpAny_Slice (evalPart_none_step (evalPart_some_step (wCI fun t tk' => evalPart_none_step ?_)))))
    refine wUpto (k := 5) F hl1 (by omega) fun c h' F' k' l' => ?_
    exact hK c _ h' _ F' k' l' (hi.take 5)
  · refine wList (evs_cons (wCI fun _ _ => evs_cons (wCI fun _ _ => evs_cons (wCI fun _ _ => evs_nil (wNew F' (by simp) fun a h2 F2 k2 l2 _ => ?_)))))
    have hyl := i'.length
    rw [List.length_map, List.length_take] at hyl
    refine wCat F2 (isList_kp l' k2) l2 (by simp; omega) fun c h3 F3 k3 l3 => ?_
    refine xS F3 fun h4 tk4 F4 k4 => ?_
    refine q c _ h4 tk4 F4 ((k'.trans k2.kb).trans (k3.trans k4)) (isList_kb l3 F3.ns k4) ?_
    exact intsAre_append i' (.cons _ _ (.cons _ _ (.cons _ _ .nil)))
end
end Mine
end PartLF2
section PartLF3
open PySem PySem.W PyProof.Rows PySem.Calls
set_option Elab.async false
set_option maxRecDepth 100000
namespace Mine
/-- what law's frame has besides its names: the cell of number, the tables of the codes -/
structure LS (N : Nat) (g0 : Heap) (L : Addr) (h : Heap) (m : Str → Option Value) (c : Option Value) (q37 q72 : Array Value) : Prop where
  fm : Fm N g0 L h m
  cell : h.IsCell (L + 1) c
  t37 : h.get? 37 = some (tabObj q37)
  t72 : h.get? 72 = some (tabObj q72)
/-- all else stands -/
def KX (N : Nat) (L : Addr) (h h' : Heap) : Prop := ∀ b o, b ≠ L → b ≠ L + 1 → b ≠ 37 → b ≠ 72 → h.get? b = some o → ∃ sl, h'.get? b = some { o with slots := sl } ∧ (¬ soft N b o → sl = o.slots)
section
variable {N : Nat} {g0 : Heap} {L : Addr} {h h' h'' : Heap} {m : Str → Option Value} {c : Option Value} {q37 q72 : Array Value}
theorem KX.kb (k : KB N L h h') : KX N L h h' := fun b o n1 _ _ _ e => k b o n1 e
theorem KX.kp (k : Kp N h h') : KX N L h h' := KX.kb k.kb
theorem KX.trans (a : KX N L h h') (b : KX N L h' h'') : KX N L h h'' := fun x o n1 n2 n3 n4 e => by
  obtain ⟨sl, e1, q1⟩ := a x o n1 n2 n3 n4 e
  obtain ⟨sl2, e2, q2⟩ := b x _ n1 n2 n3 n4 e1
  exact ⟨sl2, e2, fun hs => (q2 hs).trans (q1 hs)⟩
theorem KX.ext {P : Addr} (hP : P = 37 ∨ P = 72 ∨ P = L + 1) (x : Heap.ExtBut P h h') : KX N L h h' := fun b o n1 n2 n3 n4 e => ⟨o.slots, x b o (fun z => by
  rcases hP with r | r | r
  · exact n3 (z.trans r)
  · exact n4 (z.trans r)
  · exact n2 (z.trans r)) e, fun _ => rfl⟩
theorem KX.hard (k : KX N L h h') {b : Addr} {o : Obj} (n1 : b ≠ L) (n2 : b ≠ L + 1) (n3 : b ≠ 37) (n4 : b ≠ 72) (e : h.get? b = some o) (hs : ¬ soft N b o) : h'.get? b = some o := by
  obtain ⟨sl, e1, q⟩ := k b o n1 n2 n3 n4 e
  rw [q hs] at e1
  exact e1
theorem cell_kb (x : h.IsCell (L + 1) c) (k : KB N L h h') : h'.IsCell (L + 1) c := by
  obtain ⟨o, ho, hd⟩ := x
  exact ⟨o, k.hard (Nat.succ_ne_self L) ho (fun q => by have := q.2; unfold dictAt at this; rw [hd] at this; cases this), hd⟩
theorem LS.n37 (x : LS N g0 L h m c q37 q72) : (37 : Addr) ≠ L := fun z => by
  obtain ⟨o, es, ep, e, hd, _⟩ := x.fm.ns
  rw [← z, x.t37] at e; cases e; cases hd
theorem LS.n72 (x : LS N g0 L h m c q37 q72) : (72 : Addr) ≠ L := fun z => by
  obtain ⟨o, es, ep, e, hd, _⟩ := x.fm.ns
  rw [← z, x.t72] at e; cases e; cases hd
theorem LS.kb {m' : Str → Option Value} (x : LS N g0 L h m c q37 q72) (F' : Fm N g0 L h' m') (k : KB N L h h') : LS N g0 L h' m' c q37 q72 :=
  ⟨F', cell_kb x.cell k, k.hard x.n37 x.t37 (fields_hard rfl), k.hard x.n72 x.t72 (fields_hard rfl)⟩
theorem LS.kp (x : LS N g0 L h m c q37 q72) (k : Kp N h h') : LS N g0 L h' m c q37 q72 := x.kb (frK x.fm k) k.kb
theorem LS.c37 (x : LS N g0 L h m c q37 q72) : (37 : Addr) ≠ L + 1 := fun z => by
  obtain ⟨o, ho, hd⟩ := x.cell
  rw [← z, x.t37] at ho; cases ho; cases hd
theorem LS.c72 (x : LS N g0 L h m c q37 q72) : (72 : Addr) ≠ L + 1 := fun z => by
  obtain ⟨o, ho, hd⟩ := x.cell
  rw [← z, x.t72] at ho; cases ho; cases hd
theorem LS.list (x : LS N g0 L h m c q37 q72) {a : Addr} {vs : Array Value} (hl : h.IsList a vs) (k : KX N L h h') : h'.IsList a vs := by
  have n1 := isList_ne hl x.fm.ns
  obtain ⟨o, ho, hc, n, hd⟩ := hl
  refine ⟨o, k.hard n1 (fun z => ?_) (fun z => ?_) (fun z => ?_) ho (seq_hard hd), hc, n, hd⟩
  · obtain ⟨o2, ho2, hd2⟩ := x.cell
    rw [← z, ho] at ho2; cases ho2; rw [hd] at hd2; cases hd2
  · have := x.t37; rw [← z, ho] at this; cases this; cases hd
  · have := x.t72; rw [← z, ho] at this; cases this; cases hd
theorem LS.il (x : LS N g0 L h m c q37 q72) {v : Value} {ns : List Int} (il : IL h v ns) (k : KX N L h h') : IL h' v ns := let ⟨a, vs, e, hl, hi⟩ := il; ⟨a, vs, e, x.list hl k, hi⟩
theorem LS.ll (x : LS N g0 L h m c q37 q72) {v : Value} {nss : List (List Int)} (ll : LL h v nss) (k : KX N L h h') : LL h' v nss := let ⟨a, vs, e, hl, hi⟩ := ll; ⟨a, vs, e, x.list hl k, hi.imp fun _ _ y => x.il y k⟩
theorem LS.fo {nm : Str} {mr : List (Str × Const)} {fa : Addr} (x : LS N g0 L h m c q37 q72) : FOk N h [lawEnv nm mr L fa] := fun env he => by
  rcases List.mem_cons.mp he with rfl | he
  · obtain ⟨o, es, ep, ho, hd, _⟩ := x.fm.ns
    refine ⟨by show ScopeKind.function ≠ .module; decide, L, o, rfl, x.fm.lo, ho, ?_⟩
    unfold dictAt; rw [hd]
  · cases he
end
theorem codeHd_kp {N : Nat} {h h' : Heap} {c P : Addr} (x : CodeHd h c P) (k : Kp N h h') : CodeHd h' c P := by
  obtain ⟨o, vs, file, tf, flags, tg, inF, text, tt, e1, e2, e3, r⟩ := x
  exact ⟨o, vs, file, tf, flags, tg, inF, text, tt, k.hard e1 (fields_hard e3), e2, e3, r⟩
/-- the number of some figures -/
def vI (ds : List Int) : Int := ds.foldl (fun n d => 16 * n + d) 0
theorem vI_succ {ds : List Int} {i : Nat} {d : Int} (h : ds[i]? = some d) : vI (ds.take (i + 1)) = 16 * vI (ds.take i) + d := by
  unfold vI
  have hi : i < ds.length := by
    apply Nat.lt_of_not_le; intro z; rw [List.getElem?_eq_none z] at h; cases h
  have e : ds.take (i + 1) = ds.take i ++ [d] := by
    rw [List.take_add_one, h]; rfl
  rw [e, List.foldl_append]
  rfl
section
variable {w : World} {A : Around} {E : Value → Shared → Prop} {s : Shared} {h : Heap} {tk : Nat} {N : Nat} {g0 : Heap} {L fa : Addr} {m : Str → Option Value} {nm : Str} {mr : List (Str × Const)} {mean : ExcName → Option Value} {mg mb : Str → Option Value} {c : Option Value} {q37 q72 : Array Value}
/-- a lambda made in law, over LS -/
theorem xLam {e : Expr} {params : Arguments} {body : Expr} {scope : Scope} {pos : Pos} {Q : Value → Shared → Prop} (x : LS N g0 L h m c q37 q72) (g : G w mean mg mb N g0) (C : CodeHd g0 74 72) (hg72 : g0.get? 72 = none) (he : lamP e = params ∧ lamB e = body ∧ lamS e = scope)
    (ht : TriplesOk q72.toList) (hnf : codeAmong pos q72.toList = none) (hcl : closureFor scope (lawEnv nm mr L fa) = pure []) (hdef : defaultsOf params (lawEnv nm mr L fa) = ([], []))
    (q : ∀ l c' h' tk', LS N g0 L h' m c q37 (q72 ++ #[rawInt pos.line, rawInt pos.col, .ref c']) → KX N L h h' → LamAt e h' l → Q (.ref l) (St s h' tk')) :
    wpAny (model prg w) A (eval (.Lambda params body scope pos) (lawEnv nm mr L fa)) Q E (St s h tk) := by
  obtain ⟨rfl, rfl, rfl⟩ := he
  refine wLam x.fm g (codeHd_kp C x.fm.kp) x.t72 hg72 ht hnf hcl hdef fun l c' ct h' tk' F' hx ht' hl hc => ?_
  refine q l c' h' tk' ⟨F', ?_, hx _ _ (by decide) x.t37, ht'⟩ (KX.ext (.inr (.inl rfl)) hx) ⟨_, _, _, _, _, hl, hc⟩
  obtain ⟨o, ho, hd⟩ := x.cell
  exact ⟨o, hx _ _ (Ne.symm x.c72) ho, hd⟩
set_option maxHeartbeats 2000000 in
/-- number = reduce(lambda n, d: 16 * n + d, figures, 0) -/
theorem law1 {rest : List Stmt} {Q : Flow → Shared → Prop} {params : Arguments} {body : Expr} {scope : Scope} {p1 p2 pl p3 p4 p5 p6 : Pos} {D : Addr} {ys : List Value} {ds : List Int} (x : LS N g0 L h m none q37 q72) (g : G w mean mg mb N g0) (C : CodeHd g0 74 72) (hg72 : g0.get? 72 = none) (hgc : g0.get? (L + 1) = none)
    (hh : A.handled = none) (hdp : A.depth + 2 < recursionLimit) (hfr : A.frames = some [lawEnv nm mr L fa]) (he : lamP (lam1 w) = params ∧ lamB (lam1 w) = body ∧ lamS (lam1 w) = scope)
    (ht : TriplesOk q72.toList) (hnf : codeAmong pl q72.toList = none) (hcl : closureFor scope (lawEnv nm mr L fa) = pure []) (hdef : defaultsOf params (lawEnv nm mr L fa) = ([], []))
    (hm : m "figures" = some (.ref D)) (hl : h.IsList D (List.toArray ys)) (hi : IntsAre ys ds)
    (q : ∀ t c' h' tk', LS N g0 L h' m (some (.int (vI ds) t)) q37 (q72 ++ #[rawInt pl.line, rawInt pl.col, .ref c']) → KX N L h h' → wpAny (model prg w) A (execs rest (lawEnv nm mr L fa)) Q E (St s h' tk')) :
    wpAny (model prg w) A (execs (.Assign [.Name "number" p1] (.Call (.Name "reduce" p2) [.Lambda params body scope pl, .Name "figures" p3, .Constant (.int 0) 0 p4] [] p5) p6 :: rest) (lawEnv nm mr L fa)) Q E (St s h tk) := by
  obtain ⟨o51, ho51, fd51, hd51⟩ : ∃ o, (∀ h, G w mean mg mb N h → h.get? 51 = some o) ∧ ∃ fd, o.data = .func fd := ⟨_, fun h g => g.X 51 _ rfl, _, rfl⟩
  refine wA (cN (xG (v := .ref 51) x.fm g (by kernel_rfl) (cwF hd51 (evs_cons (xLam x g C hg72 he ht hnf hcl hdef fun l c' h1 tk1 x1 k1 la => ?_))))) sw3
  have hl1 := x.list hl k1
  refine evs_cons (xL x1.fm hm (evs_cons (wCI fun t0 tk2 => evs_nil ⟨ho51 _ (g.fm x1.fm), ?_⟩)))
  obtain ⟨ol, fdl, hlo, hld⟩ := la.fn
  refine reduce (s := St s h1 tk2) (fun i v _ => ∃ t, v = .int (vI (ds.take i)) t) (g.fm x1.fm) (by omega) hh hfr x1.fo hl1 hlo hld (fun A' E' h tk K _ hK => ?_) (fun _ _ => ⟨t0, by simp [vI]⟩) (fun _ _ _ _ j _ => j) ?_ ?_
  · exact wpAny_is_other rfl (by intro z; cases z) hK
  · rintro A' outer' i v y h2 tk3 K E' hA1 hA2 hA3 hA4 fo2 g2 kp2 ⟨t, rfl⟩ hy hK
    have hil : i < ds.length := by
      have := hi.length
      have : i < ys.length := by
        apply Nat.lt_of_not_le; intro z; rw [List.getElem?_eq_none z] at hy; cases hy
      omega
    obtain ⟨u, eu⟩ := ints_get hi hil
    rw [hy] at eu
    cases eu
    have ed : ds[i]? = some (ds.getD i 0) := by simp [List.getD, hil]
    refine lamMul (s := St s h2 tk3) (la.kp kp2) g2 (by omega) fun t' h3 tk4 k3 => ?_
    exact hK _ h3 tk4 k3 ⟨t', by rw [vI_succ ed]⟩
  · rintro v h2 tk3 kp2 ⟨t, rfl⟩
    have x2 := x1.kp kp2
    show wpAny _ _ _ _ _ (St s h2 tk3)
    rw [List.take_of_length_le (by rw [hi.length]; exact Nat.le_refl _)]
    refine xC x2.fm hgc x2.cell fun h3 F3 sb3 c3 => ?_
    refine q t c' h3 tk3 ⟨F3, c3, (sb3.2 37 x2.c37).trans x2.t37, (sb3.2 72 x2.c72).trans x2.t72⟩ ?_
    exact (k1.trans (KX.kp kp2)).trans (KX.ext (.inr (.inr rfl)) sb3.extBut)
end
end Mine
end PartLF3
section PartLF4
open PySem PySem.W PyProof.Rows PySem.Calls
set_option Elab.async false
set_option maxRecDepth 100000
namespace Mine
section
variable {w : World} {A : Around} {E : Value → Shared → Prop} {s : Shared} {h : Heap} {tk : Nat} {N : Nat} {g0 : Heap} {L fa : Addr} {m : Str → Option Value} {nm : Str} {mr : List (Str × Const)} {mean : ExcName → Option Value} {mg mb : Str → Option Value} {c : Option Value} {q37 q72 : Array Value}
theorem LamAt.ext {e : Expr} {h h' : Heap} {l : Addr} (x : LamAt e h l) (t37 : h.get? 37 = some (tabObj #[])) (k : ∀ b o, b ≠ 37 → h.get? b = some o → h'.get? b = some o) : LamAt e h' l := by
  obtain ⟨n, q, pm, c, ct, h1, h2⟩ := x
  refine ⟨n, q, pm, c, ct, k _ _ (fun z => by rw [z, t37] at h1; cases h1) h1, ?_⟩
  obtain ⟨c', o, vs, t, e, ho, hd, hv⟩ := h2
  refine ⟨c', o, vs, t, e, k _ _ (fun z => ?_) ho, hd, hv⟩
  rw [z, t37] at ho
  cases ho
  cases hd
  cases hv
theorem hardNs {b : Addr} {o : Obj} {h h' : Heap} {m : Str → Option Value} (hn : h.Ns L m) (k : KB N L h h') (e : h.get? b = some o) (hd : dictAt o = false) : h'.get? b = some o := by
  refine k.hard (fun z => ?_) e fun q => by have := q.2; rw [hd] at this; cases this
  obtain ⟨o', es, ep, ho', hd', _⟩ := hn
  rw [z, ho'] at e
  cases e
  unfold dictAt at hd
  rw [hd'] at hd
  cases hd
theorem codeRec_kb {h h' : Heap} {m : Str → Option Value} {cd : Value} {q : Str} (hn : h.Ns L m) (x : h.CodeRec cd q) (k : KB N L h h') : h'.CodeRec cd q := by
  obtain ⟨c, o, vs, t, e, ho, hd, hv⟩ := x
  exact ⟨c, o, vs, t, e, hardNs hn k ho (by unfold dictAt; rw [hd]), hd, hv⟩
theorem LamAt.kb {e : Expr} {h h' : Heap} {m : Str → Option Value} {l : Addr} (hn : h.Ns L m) (x : LamAt e h l) (k : KB N L h h') : LamAt e h' l := by
  obtain ⟨n, q, pm, c, ct, h1, h2⟩ := x
  exact ⟨n, q, pm, c, ct, hardNs hn k h1 rfl, codeRec_kb hn h2 k⟩
theorem KEnd.kb {p : Nat} {l : Addr} {h h' : Heap} {m : Str → Option Value} (hL : L + 1 < p + 76) (hn : h.Ns L m) (x : KEnd w p l h) (k : KB N L h h') : KEnd w p l h' := by
  obtain ⟨⟨cd, sl, c0, c1⟩, ⟨oN, n0, n1, n2, n3, n4, n5, n6⟩, ⟨n, t, t', d0⟩, ⟨in1, in2, in3, in4, i0, i1⟩, ⟨ln1, ln2, ln3, ln4, l0, l1⟩, ce⟩ := x
  have hne : p + 135 ≠ L := by
    intro z
    rw [← z] at hL
    exact Nat.lt_asymm hL (by show p + 76 < p + 135 + 1; omega)
  obtain ⟨sN, eN, _⟩ := k _ _ hne n0
  refine ⟨⟨cd, sl, hardNs hn k c0 rfl, c1⟩, ⟨_, eN, ?_, ?_, ?_, ?_, ?_, ?_⟩, ⟨n, t, t', hardNs hn k d0 rfl⟩, ⟨in1, in2, in3, in4, hardNs hn k i0 rfl, codeRec_kb hn i1 k⟩,
    ⟨ln1, ln2, ln3, ln4, hardNs hn k l0 rfl, codeRec_kb hn l1 k⟩, hardNs hn k ce rfl⟩
  all_goals rw [nsIn_slots]; assumption
set_option maxHeartbeats 2000000 in
/-- order = cmp_to_key(lambda a, b: ..) -/
theorem law2 {rest : List Stmt} {Q : Flow → Shared → Prop} {params : Arguments} {body : Expr} {scope : Scope} {p1 p2 pl p3 p4 : Pos} {fr : Option (List Env)} {gd : Option (List Code)} (hA : A = { handled := none, depth := 302, frames := fr, guards := gd, units := 7 })
    (x : LS N g0 L h m c #[] q72) (g : G w mean mg mb N g0) (C : CodeHd g0 74 72) (hg72 : g0.get? 72 = none) (hg37 : g0.get? 37 = none)
    (he : lamP (lam2 w) = params ∧ lamB (lam2 w) = body ∧ lamS (lam2 w) = scope)
    (ht : TriplesOk q72.toList) (hnf : codeAmong pl q72.toList = none) (hcl : closureFor scope (lawEnv nm mr L fa) = pure []) (hdef : defaultsOf params (lawEnv nm mr L fa) = ([], []))
    (q : ∀ p l c' tb h' tk', LS N g0 L h' (fun y => if y = "order" then some (.ref (p + 136)) else m y) c tb (q72 ++ #[rawInt pl.line, rawInt pl.col, .ref c']) → KX N L h h' → KEnd w p l h' → LamAt (lam2 w) h' l → L + 1 < p + 76 → wpAny (model prg w) A (execs rest (lawEnv nm mr L fa)) Q E (St s h' tk')) :
    wpAny (model prg w) A (execs (.Assign [.Name "order" p1] (.Call (.Name "cmp_to_key" p2) [.Lambda params body scope pl] [] p3) p4 :: rest) (lawEnv nm mr L fa)) Q E (St s h tk) := by
  subst hA
  obtain ⟨o42, ho42, fd42, hd42⟩ : ∃ o, (∀ h, G w mean mg mb N h → h.get? 42 = some o) ∧ ∃ fd, o.data = .func fd := ⟨_, fun h g => g.X 42 _ rfl, _, rfl⟩
  refine wA (cN (xG (v := .ref 42) x.fm g (by kernel_rfl) (cwF hd42 (evs_cons (xLam x g C hg72 he ht hnf hcl hdef fun l c' h1 tk1 x1 k1 la => evs_nil ⟨ho42 _ (g.fm x1.fm), ?_⟩))))) sw3
  have g1 := g.fm x1.fm
  obtain ⟨p, hz⟩ : ∃ p, h1.objs.size = p + 76 := ⟨h1.objs.size - 76, by
    have : (75 : Nat) < h1.objs.size := Heap.lt_size (g1.X 75 _ rfl)
    omega⟩
  obtain ⟨ob, hob, LB⟩ := lbt_of g1.T.b g1.T.builtins
  obtain ⟨bm, ob4, b1, b2, b3, b4, b5, b6⟩ := g1.T.bmain
  have e4 : mg "__builtins__" = some (.ref 4) := mg_of g.X g.T.g (by kernel_rfl)
  rw [e4] at b1
  cases b1
  obtain ⟨cc, dd, da, sl4⟩ := ob4
  dsimp only at b4 b5 b6
  subst b4 b5 b6
  refine wpAny_call (cls w s h1 tk1 p g1.X hz x1.t37 ob hob LB sl4 b3 fr gd l _ fun h2 tk2 hsz keep2 htb ke => ?_)
  obtain ⟨tb, htb⟩ := htb
  have hx2 : Heap.ExtBut 37 h1 h2 := fun b o hb e => keep2 b o hb e
  have F2 := frE x1.fm hx2 x1.n37 hg37
  have c2 : h2.IsCell (L + 1) c := by
    obtain ⟨o, ho, hd⟩ := x1.cell
    exact ⟨o, keep2 _ _ (Ne.symm x1.c37) ho, hd⟩
  have x2 : LS N g0 L h2 m c tb (q72 ++ #[rawInt pl.line, rawInt pl.col, .ref c']) := ⟨F2, c2, htb, keep2 _ _ (by decide) x1.t72⟩
  have la2 := la.ext x1.t37 keep2
  show wpAny _ _ _ _ _ (St s h2 tk2)
  refine xS F2 fun h3 tk3 F3 k3 => ?_
  have hLp : L + 1 < p + 76 := by
    obtain ⟨o, ho, _⟩ := x1.cell
    have := Heap.lt_size ho
    rw [hz] at this
    exact this
  refine q p l c' tb h3 tk3 (x2.kb F3 k3) ((k1.trans (KX.ext (.inl rfl) hx2)).trans (KX.kb k3)) ?_ ?_ hLp
  · exact ke.kb hLp F2.ns k3
  · exact la2.kb F2.ns k3
end
end Mine
end PartLF4
section PartLF5
open PySem PySem.W PyProof.Rows PySem.Calls
set_option Elab.async false
set_option maxRecDepth 100000
namespace Mine
theorem cmp3_lt (xs ys : List Int) : decide (cmp3 xs ys < 0) = ltL xs ys := by
  unfold cmp3
  cases h1 : ltL xs ys with
  | false => cases ltL ys xs <;> decide
  | true =>
    cases h2 : ltL ys xs with
    | false => decide
    | true => have := lt_tr h1 h2; rw [lt_irr] at this; cases this
section
variable {M : Model} {w : World} {A : Around} {E : Value → Shared → Prop} {s : Shared} {h : Heap} {tk : Nat} {N : Nat} {g0 : Heap} {L fa : Addr} {m : Str → Option Value} {nm : Str} {mr : List (Str × Const)} {mean : ExcName → Option Value} {mg mb : Str → Option Value} {c : Option Value} {q37 q72 : Array Value}
/-- a built-in called with one argument and one keyword -/
theorem cwK {env : Env} {pos kp : Pos} {id : String} {e value : PySem.Expr} {name : Str} {Q : Value → Shared → Prop} {s : Shared}
    (q : wpAny M A (eval e env) (fun v s₁ => wpAny M A (eval value env) (fun u s₂ => wpAny M A (call (.builtin id) [v] [(name, u)]) Q E s₂) E s₁) E s) (hp : plainEs [e] = true := by rfl) :
    wpAny M A (callWith pos (.builtin id) [] (backTo pos (starEach [e] env)) (backToKw pos (keywordEach [⟨some name, value, kp⟩] env))) Q E s := by
  rw [args_plain pos env hp]
  refine callWith_builtin_kwB (any_plain env _) rfl (evalArgs_kwB rfl (spliced_cons (wpAny_mono q (fun v s₁ h₁ => spliced_nil ?_) fun _ _ z => z)))
  exact kws_cons (wpAny_mono h₁ (fun u s₂ h₂ => kws_nil h₂) fun _ _ z => z)
theorem KI.k2 {lo p : Addr} {h1 h2 : Heap} {a b : Addr} {v : Value} {ks : List Value} {e : Nat} {m : Str → Option Value} (x : KI lo p h1 a v) (hn : h1.Ns lo m) (hb : h1.get? b = some (seqObj "list" (List.toArray ks) e)) (k : K2 b lo h1 h2) : KI lo p h2 a v := by
  obtain ⟨dx, od, h0, ha, hd, hdd⟩ := x
  refine ⟨dx, od, h0, k _ _ (fun z => ?_) (fun z => ?_) ha, k _ _ (fun z => ?_) (Nat.ne_of_gt h0) hd, hdd⟩
  · rw [z, hb] at ha; cases ha
  · obtain ⟨o, es, ep, ho, hdo, _⟩ := hn
    rw [z, ho] at ha; cases ha; cases hdo
  · rw [z, hb] at hd; cases hd; cases hdd
theorem elMod {scope : Scope} {src : List Int} {p1 p2 p3 p4 p5 : Pos} {h1 : Heap} {num : Int} {t : Tok} (hc : h1.IsCell (L + 1) (some (.int num t))) (hsrc : ∀ a ∈ src, 0 ≤ a ∧ a ≤ 1000)
    (hk : scope.kind = .function) (hd : (compEnvC scope [(Str.ofString "number", L + 1)] 0 (lawEnv nm mr L fa)).kindOf "number" = some .cell) (hd2 : (compEnvC scope [(Str.ofString "number", L + 1)] 0 (lawEnv nm mr L fa)).kindOf "k" = some .local) :
    ElOk w A (lawEnv nm mr L fa) scope [(Str.ofString "number", L + 1)] "k" (.BinOp (.Name "number" p1) .Mod (.BinOp (.Constant (.int 16) 0 p2) .Pow (.Name "k" p3) p4) p5) src (fun k => num.fmod (16 ^ k.toNat)) h1 := by
  intro C a t' s₃ m₃ E' ha hn hm hkp
  have hcell : s₃.heap.IsCell (L + 1) (some (.int num t)) := by
    obtain ⟨o, ho, hdo⟩ := hc
    exact ⟨o, hkp _ _ ho, hdo⟩
  have hb := hsrc a ha
  refine wpAny_BinOp (wpAny_Name (wpAny_loadName_cell (env := compEnvC scope [(Str.ofString "number", L + 1)] C (lawEnv nm mr L fa)) hk hd rfl hcell ?_) (by decide))
  refine wpAny_BinOp (wpAny_Constant_int (wpAny_Name (wpAny_loadName_local (env := compEnvC scope [(Str.ofString "number", L + 1)] C (lawEnv nm mr L fa)) hk hd2 hn hm ?_) (by decide)))
  refine PyProof.Rows.pow_int_small hb.1 (by omega) (by decide) (PyProof.Rows.mod_int (Int.ne_of_gt (Int.pow_pos (by decide))) ?_)
  exact ⟨⟨_, rfl⟩, ⟨_, _, rfl, fun _ _ e => e⟩⟩
theorem getD_map {vs : List Value} {tl : List Int} (hi : IntsAre vs tl) : ∀ l : List Nat, (∀ i ∈ l, i < tl.length) → IntsAre (l.map fun i => vs.getD i Value.none) (l.map fun i => tl.getD i 0)
  | [], _ => .nil
  | i :: r, h => by
    obtain ⟨t, e⟩ := ints_get hi (h i (.head _))
    have : vs.getD i Value.none = .int (tl.getD i 0) t := by simp only [List.getD, e, Option.getD_some]
    rw [List.map_cons, this, List.map_cons]
    exact .cons _ _ (getD_map hi r fun j hj => h j (.tail _ hj))
set_option maxHeartbeats 4000000 in
/-- tails = sorted([number % 16 ** k for k in range(1, len(figures) + 1)], key=order) -/
theorem law3 {rest : List Stmt} {Q : Flow → Shared → Prop} {p1 p2 p3 p4 p5 p6 p7 p8 p9 p10 p11 p12 p13 p14 p15 p16 p17 p18 p19 p20 p21 : Pos} {D l : Addr} {p : Nat} {ys : List Value} {ds : List Int} {num : Int} {t : Tok} {tl : List Int}
    (x : LS N g0 L h m (some (.int num t)) q37 q72) (g : G w mean mg mb N g0) (ke : KEnd w p l h) (la : LamAt (lam2 w) h l) (hLp : L + 1 < p + 76)
    (hh : A.handled = none) (hdp : A.depth + 4 < recursionLimit) (hu : A.units + 200 < cLine)
    (hm : m "figures" = some (.ref D)) (hmo : m "order" = some (.ref (p + 136))) (hl : h.IsList D (List.toArray ys)) (hi : IntsAre ys ds) (hd2 : 2 ≤ ds.length) (hd8 : ds.length ≤ 50)
    (htl : tl = ((List.range ds.length).map fun (i : Nat) => (1 : Int) + (i : Int)).map fun k => num.fmod (16 ^ k.toNat)) (hb : ∀ a ∈ tl, 0 ≤ a ∧ a < 2 ^ 60)
    (hdist : ∀ i j, i < tl.length → j < tl.length → i ≠ j → lets (tl.getD i 0).toNat ≠ lets (tl.getD j 0).toNat)
    (q : ∀ D' us pp h' tk', LS N g0 L h' (fun y => if y = "tails" then some (.ref D') else m y) (some (.int num t)) q37 q72 → KX N L h h' → h'.IsList D' (List.toArray us) → IntsAre us (pp.toList.map fun i => tl.getD i 0) → Pm tl.length pp →
      Asc (fun i j => ltL (lets (tl.getD i 0).toNat) (lets (tl.getD j 0).toNat)) pp tl.length → wpAny (model prg w) A (execs rest (lawEnv nm mr L fa)) Q E (St s h' tk')) :
    wpAny (model prg w) A (execs (.Assign [.Name "tails" p1] (.Call (.Name "sorted" p2) [.ListComp (.BinOp (.Name "number" p3) .Mod (.BinOp (.Constant (.int 16) 0 p4) .Pow (.Name "k" p5) p6) p7)
      [⟨.Name "k" p8, .Call (.Name "range" p9) [.Constant (.int 1) 0 p10, .BinOp (.Call (.Name "len" p11) [.Name "figures" p12] [] p13) .Add (.Constant (.int 1) 0 p14) p15] [] p16, [], 0⟩]
      { kind := .function, names := [(Str.ofString ".0", .local), (Str.ofString "k", .local), (Str.ofString "number", .free)], isGenerator := false, isCoroutine := false } p17] [⟨some "key", .Name "order" p18, p19⟩] p20) p21 :: rest) (lawEnv nm mr L fa)) Q E (St s h tk) := by
  have hyl := hi.length
  have htll : tl.length = ds.length := by rw [htl]; simp
  refine wA (wpAny_Call_ofName (xB x.fm g (by kernel_rfl) boot_sorted (cwK (compR (N := N) (g0 := g0) (L := L) (m := m) (cl := [(Str.ofString "number", L + 1)]) (lo := 1) (n := ds.length) (f := fun k => num.fmod (16 ^ k.toNat)) hh (by rfl) (by decide) rfl (by decide) (by rfl) (by omega) (by omega) (by omega) (fun K hK => ?_)
    (fun h1 F1 k1 => elMod (cell_kb x.cell k1) (fun a ha => ?_) rfl (by rfl) (by rfl)) fun D1 zs h1 tk1 F1 k1 l1 i1 => ?_)))) sw3
  · refine cN (xB x.fm g (by kernel_rfl) boot_range (cwT (evs_cons (wCI fun _ _ => evs_cons (wpAny_BinOp (cN (xB x.fm g (by kernel_rfl) boot_len (cwB (evs_cons (xL x.fm hm (evs_nil (wLen hl (by omega) fun _ tk' => wCI fun _ _ => wAddI fun _ _ => evs_nil ?_))))))))))))
    refine callRange2 x.fm fun r h' tk' t1 u1 v1 F' k' hr => ?_
    rw [hyl] at hr
    exact hK r h' tk' t1 u1 v1 F' k'.kb (by rw [Int.add_comm 1]; exact hr)
  · obtain ⟨i, hi', rfl⟩ := List.mem_map.mp ha
    have := List.mem_range.mp hi'
    omega
  · rw [← htl] at i1
    have zl := i1.length
    have x1 := x.kb F1 k1
    have ke1 := ke.kb hLp x.fm.ns k1
    have la1 := la.kb x.fm.ns k1
    refine xL F1 hmo ?_
    obtain ⟨ol, fdl, hlo, hld⟩ := la1.fn
    have dep : A.in1.in1.depth = A.depth := rfl
    have uni : A.in1.in1.units = A.units + 2 := rfl
    have hdl : A.in1.in1.handled = none := hh
    refine sortK (T := .ref (p + 136)) (lt := fun i j => ltL (lets (tl.getD i 0).toNat) (lets (tl.getD j 0).toNat)) (fun i k hc => ∃ a u, k = .ref a ∧ KI L p hc a (.int (tl.getD i 0) u)) F1 l1 (by omega) (by omega) (ksk_s1 _ _) (fun _ => ksk_l1 _ _) (fun a => ksk_t1 _ a) ?_ ?_ ?_ ?_ (by rfl) (by simp) ?_ (fun a b c => lt_tr) (fun a b ha hb' hab => lt_tot (hdist a b (by omega) (by omega) hab)) ?_
    · rintro i k h2 h3 ⟨a, u, rfl, ki⟩ kk
      exact ⟨a, u, rfl, ki.kp kk⟩
    · rintro i k h2 h3 b ks e ⟨a, u, rfl, ki⟩ hbb _ hn kk
      exact ⟨a, u, rfl, ki.k2 hn hbb kk⟩
    · intro i v h2 tk2 K hv F2 k2 hK
      have hil : i < tl.length := by
        have : i < zs.length := by
          apply Nat.lt_of_not_le; intro z; rw [List.getElem?_eq_none z] at hv; cases hv
        omega
      obtain ⟨u, eu⟩ := ints_get i1 hil
      rw [hv] at eu
      cases eu
      refine kNew (s := St s h2 tk2) (lo := L) F2.ns.lt (ke1.kb hLp F1.ns k2) (g.fm F2) (by rw [dep]; omega) fun a h3 tk3 k3 _ ki => ?_
      exact hK _ h3 tk3 k3 ⟨a, u, rfl, ki⟩
    · rintro i k h2 ⟨a, u, rfl, dx, od, _, ha, _⟩
      exact (Looks.ld ha).andThen .now
    · rintro i j _ _ h2 tk2 K hi2 hj2 F2 k2 ⟨a, u, rfl, ka⟩ ⟨b, u', rfl, kb⟩ hK
      have ke2 := ke1.kb hLp F1.ns k2
      obtain ⟨KK, X, kf⟩ := ke2.frag
      obtain ⟨oa, da, Ia, _⟩ := ka.at
      have bi := hb (tl.getD i 0) (by simp [List.getD, show i < tl.length by omega])
      have bj := hb (tl.getD j 0) (by simp [List.getD, show j < tl.length by omega])
      rw [keyLt'_oneType, oneLt'_eq]
      simp only [if_true]
      refine wpAny_bind (wpAny_cRoomFor (by rw [uni]; omega) ?_)
      refine wpAny_bind (ifBound_K X Ia kf.lt kf.lf ?_)
      refine kLt (s := St s h2 tk2) (c := cmp3 (lets (tl.getD i 0).toNat) (lets (tl.getD j 0).toNat)) ke2 (g.fm F2) (by rw [dep]; omega) hdl ka kb (hardNs F1.ns k2 hlo (by unfold dictAt; rw [hld])) hld (fun A' E' h3 tk3 K' hA1 hA2 hA3 kp3 g3 hK' => ?_) fun h3 tk3 kp3 => ?_
      · exact lamCmp (s := St s h3 tk3) ((la1.kb F1.ns k2).kp kp3) g3 (by rw [hA1, dep]; omega) (by rw [hA2, uni]; omega) hA3 bi.1 bi.2 bj.1 bj.2 fun t' h4 tk4 k4 => hK' t' h4 tk4 k4
      · rw [cmp3_lt]
        exact wpAny_truthy_bool (hK h3 tk3 kp3)
    · intro D2 pp h2 tk2 F2 k2 l2 hp hasc
      refine xS F2 fun h3 tk3 F3 k3 => ?_
      rw [zl] at hp hasc
      refine q D2 _ pp h3 tk3 ((x1.kb F2 k2).kb F3 k3) ((KX.kb k1).trans (KX.kb (k2.trans k3))) (isList_kb l2 F2.ns k3) (getD_map i1 _ fun i hi => ?_) hp hasc
      rw [Array.mem_toList_iff] at hi
      simpa using (Array.Perm.mem_iff hp).mp hi
end
end Mine
end PartLF5
section PartLF6
open PySem PySem.W PyProof.Rows PySem.Calls PySem.Spec PyProof.V
set_option Elab.async false
set_option maxRecDepth 100000
namespace Mine
theorem isTup_ks {g h : Heap} {a : Addr} {vs : Array Value} (x : IsTup g a vs) (k : KS g h) : IsTup h a vs := let ⟨o, ho, hc, n, hd⟩ := x; ⟨o, k _ _ _ _ ho hd, hc, n, hd⟩
theorem LL.ks {g h : Heap} {v : Value} {nss : List (List Int)} (x : LL g v nss) (k : KS g h) : LL h v nss := let ⟨a, vs, e, ⟨o, ho, hc, n, hd⟩, hi⟩ := x; ⟨a, vs, e, ⟨o, k _ _ _ _ ho hd, hc, n, hd⟩, hi.imp fun _ _ y => y.ks k⟩
theorem ST.ks {g h : Heap} {v : Value} {a b c : List (List Int)} (x : ST g v a b c) (k : KS g h) : ST h v a b c := let ⟨t, v0, v1, v2, e, ht, l0, l1, l2⟩ := x; ⟨t, v0, v1, v2, e, isTup_ks ht k, l0.ks k, l1.ks k, l2.ks k⟩
section
variable {w : World} {A : Around} {E : Value → Shared → Prop} {s : Shared} {h : Heap} {tk : Nat} {N : Nat} {g0 : Heap} {L fa : Addr} {m : Str → Option Value} {nm : Str} {mr : List (Str × Const)} {mean : ExcName → Option Value} {mg mb : Str → Option Value} {c : Option Value} {q37 q72 : Array Value}
set_option maxHeartbeats 4000000 in
/-- ends = reduce(_law_step, tails, ([], [], [])) -/
theorem law4 {rest : List Stmt} {Q : Flow → Shared → Prop} {p1 p2 p3 p4 p5 p6 p7 p8 p9 p10 : Pos} {D : Addr} {us : List Value} {nums : List Int} {ts : List (List Int)}
    (x : LS N g0 L h m c q37 q72) (g : G w mean mg mb N g0) (hh : A.handled = none) (hdp : A.depth + 5 < recursionLimit) (hu : A.units + 200 < cLine) (hfr : A.frames = some [lawEnv nm mr L fa])
    (hm : m "tails" = some (.ref D)) (hl : h.IsList D (List.toArray us)) (hi : IntsAre us nums) (hts : ts = nums.map fun n => lets n.toNat) (hlen : nums.length ≤ 50)
    (hn : ∀ n ∈ nums, 0 ≤ n ∧ n < 2 ^ 60 ∧ begs n.toNat = pre (lets n.toNat) ∧ lets n.toNat ≠ [] ∧ Lo (lets n.toNat)) (hpw : ts.Pairwise fun a b => ltL a b = true)
    (q : ∀ v h' tk', LS N g0 L h' (fun y => if y = "ends" then some v else m y) c q37 q72 → KX N L h h' → ST h' v (runP ts).1 (runP ts).2.1 (pre (runP ts).2.2) → wpAny (model prg w) A (execs rest (lawEnv nm mr L fa)) Q E (St s h' tk')) :
    wpAny (model prg w) A (execs (.Assign [.Name "ends" p1] (.Call (.Name "reduce" p2) [.Name "_law_step" p3, .Name "tails" p4, .Tuple [.List [] p5, .List [] p6, .List [] p7] 0 p8] [] p9) p10 :: rest) (lawEnv nm mr L fa)) Q E (St s h tk) := by
  obtain ⟨o51, ho51, fd51, hd51⟩ : ∃ o, (∀ h, G w mean mg mb N h → h.get? 51 = some o) ∧ ∃ fd, o.data = .func fd := ⟨_, fun h g => g.X 51 _ rfl, _, rfl⟩
  obtain ⟨o65, ho65, fd65, hd65⟩ : ∃ o, (∀ h, G w mean mg mb N h → h.get? 65 = some o) ∧ ∃ fd, o.data = .func fd := ⟨_, fun h g => g.X 65 _ rfl, _, rfl⟩
  obtain ⟨o43, ho43, hc43, hp43⟩ : ∃ o, (∀ h, G w mean mg mb N h → h.get? 43 = some o) ∧ o.cls = .type "object" ∧ o.data = .plain := ⟨_, fun h g => g.X 43 _ rfl, rfl, rfl⟩
  have htl : ts.length = nums.length := by rw [hts]; simp
  have ht15 : ∀ t ∈ ts, t.length ≤ 15 := by
    intro t ht
    rw [hts] at ht
    obtain ⟨n, hn', rfl⟩ := List.mem_map.mp ht
    exact lets_len16 (by have := hn n hn'; omega)
  have htok : ∀ t ∈ ts, t ≠ [] ∧ Lo t := by
    intro t ht
    rw [hts] at ht
    obtain ⟨n, hn', rfl⟩ := List.mem_map.mp ht
    exact (hn n hn').2.2.2
  refine wA (cN (xG (v := .ref 51) x.fm g (by kernel_rfl) (cwF hd51 (evs_cons (xG (v := .ref 65) x.fm g (by kernel_rfl) (evs_cons (xL x.fm hm (evs_cons (wTuple (evs_cons (wList (evs_nil (wNew x.fm (by simp) ?_))))))))))))) sw3
  intro a1 h1 F1 k1 l1 _
  refine evs_cons (wList (evs_nil (wNew F1 (by simp) ?_)))
  intro a2 h2 F2 k2 l2 _
  refine evs_cons (wList (evs_nil (wNew F2 (by simp) ?_)))
  intro a3 h3 F3 k3 l3 _
  refine evs_nil (wNewT F3 (by simp) ?_)
  intro at_ h4 F4 k4 t4 _
  refine evs_nil ⟨ho51 _ (g.fm F4), ?_⟩
  have kk : Kp N h h4 := ((k1.trans k2).trans k3).trans k4
  have st4 : ST h4 (.ref at_) [] [] [] := ⟨at_, _, _, _, rfl, t4, ⟨a1, [], rfl, isList_kp (isList_kp (isList_kp l1 k2) k3) k4, .nil⟩, ⟨a2, [], rfl, isList_kp (isList_kp l2 k3) k4, .nil⟩, ⟨a3, [], rfl, isList_kp l3 k4, .nil⟩⟩
  have x4 := x.kp kk
  refine reduce (fun i v hc => ST hc v (runP (ts.take i)).1 (runP (ts.take i)).2.1 (pre (runP (ts.take i)).2.2)) (g.fm F4) (by omega) hh hfr x4.fo (isList_kp hl kk) (ho65 _ (g.fm F4)) hd65 (fun A' E' h5 tk5 K k5 hK => ?_) (fun h5 k5 => ?_) (fun _ _ _ _ j k => j.ks k) ?_ ?_
  · exact is_tup (isTup_kp t4 k5) (k5.hard (ho43 _ (g.fm F4)) (plain_hard hp43)) hc43 hK
  · exact st4.kp k5
  · rintro A' outer' i v y h5 tk5 K E' hA1 hA2 hA3 hA4 fo5 g5 kp5 st5 hy hK
    have hul : i < us.length := by
      apply Nat.lt_of_not_le; intro z; rw [List.getElem?_eq_none z] at hy; cases hy
    have hil : i < nums.length := by rw [← hi.length]; exact hul
    obtain ⟨u, eu⟩ := ints_get hi hil
    rw [hy] at eu
    cases eu
    have hmem : nums.getD i 0 ∈ nums := by simp [List.getD, hil]
    obtain ⟨n0, n60, nb, nne, nlo⟩ := hn _ hmem
    have ht : ts[i]? = some (lets (nums.getD i 0).toNat) := by rw [hts]; simp [List.getD, hil]
    generalize nums.getD i 0 = n at n0 n60 nb nne nlo ht hmem
    have etk : ts.take (i + 1) = ts.take i ++ [lets n.toNat] := by rw [List.take_add_one, ht]; rfl
    have hpw' : (ts.take i ++ [lets n.toNat]).Pairwise fun a b => ltL a b = true := by rw [← etk]; exact hpw.sublist (List.take_sublist _ _)
    rw [List.pairwise_append] at hpw'
    obtain ⟨_, _, hlt⟩ := runP_inv (ts.take i) hpw'.1 fun t ht' => htok t (List.mem_of_mem_take ht')
    have hcur := hlt (lets n.toNat) (fun u hu' => hpw'.2.2 u hu' _ (by simp)) nne
    obtain ⟨f1, f2, f3, f4⟩ := step_facts hcur
    obtain ⟨g1, g2, g3⟩ := runP_len (ts.take i) 15 fun t ht' => ht15 t (List.mem_of_mem_take ht')
    have hti : (ts.take i).length ≤ 50 := by rw [List.length_take]; omega
    have hmul : (ts.take i).length * 15 ≤ 50 * 15 := Nat.mul_le_mul_right _ hti
    refine step (s := St s h5 tk5) (k := lcp (runP (ts.take i)).2.2 (lets n.toNat)) g5 (by omega) (by omega) hA3 hA4 fo5 st5 n0 n60 (by omega) (by omega) (by rw [pre_len]; omega) (by rw [nb]; exact f1) f2 (by rw [nb]; exact f3) (by rw [nb]; exact f4) (by rw [nb]; exact pre_diff _) (pre_diff _) fun u' h6 tk6 k6 st6 => ?_
    refine hK u' h6 tk6 k6 ?_
    rw [etk, runP_snoc]
    rw [nb] at st6
    exact st6
  · intro v h5 tk5 kp5 st5
    have x5 := x4.kp kp5
    have hul : us.length = ts.length := by rw [hi.length, htl]
    rw [hul, List.take_of_length_le (Nat.le_refl _)] at st5
    refine xS x5.fm fun h6 tk6 F6 k6 => ?_
    refine q v h6 tk6 (x5.kb F6 k6) ((KX.kp (kk.trans kp5)).trans (KX.kb k6)) (st5.ks (KS.kb x5.fm.ns k6))
end
end Mine
end PartLF6
section PartLF7
open PySem PySem.W PyProof.Rows PySem.Calls PySem.Spec PyProof.V PySem.SeqAt
set_option Elab.async false
set_option maxRecDepth 100000
namespace Mine
/-- the data of a list of lists of ints -/
def dLL (pss : List (List Int)) : List PyData := pss.map fun ns => PyData.list (ns.map PyData.int)
theorem readsF2 {h : Heap} {vs : List Value} {pss : List (List Int)} (x : F2 (IL h) vs pss) : ∃ as, ReadsAll h vs (dLL pss) as := by
  induction x with
  | nil => exact ⟨[], .nil⟩
  | cons r _ ih =>
    obtain ⟨as, ra⟩ := ih
    obtain ⟨a, us, rfl, hl, hi⟩ := r
    exact ⟨_, .cons (reads_of_ints hl hi) ra⟩
theorem readsLL {h : Heap} {v : Value} {pss : List (List Int)} (x : LL h v pss) : ∃ as, Reads h v (.list (dLL pss)) as := by
  obtain ⟨a, vs, rfl, ⟨o, ho, hc, n, hd⟩, hf⟩ := x
  obtain ⟨as, ra⟩ := readsF2 hf
  exact ⟨a :: as, Reads.list ho hc hd (by simpa using ra)⟩
theorem canLay_dLL : ∀ pss : List (List Int), PyData.canLayAll0 (dLL pss) = true
  | [] => by simp [dLL, PyData.canLayAll0]
  | ns :: r => by
    have ih := canLay_dLL r
    unfold dLL at ih ⊢
    simp only [List.map_cons, PyData.canLayAll0, PyData.canLay0, canLayAll0_ints ns, ih, Bool.and_self]
theorem depth_dLL : ∀ pss : List (List Int), PyData.depthAll (dLL pss) ≤ 2
  | [] => by simp [dLL, PyData.depthAll]
  | ns :: r => by
    have ih := depth_dLL r
    have h1 := PySem.W.depthAll_ints ns
    unfold dLL at ih ⊢
    simp only [List.map_cons, PyData.depthAll, PyData.depth]
    omega
theorem shaped_dLL (pss : List (List Int)) : shaped (.list (dLL pss)) = true := by
  have h1 := depth_dLL pss
  have h2 : PyData.depth (.list (dLL pss)) ≤ 64 := by simp only [PyData.depth]; omega
  show (PyData.canLay0 (.list (dLL pss)) && decide (PyData.depth (.list (dLL pss)) ≤ 64)) = true
  rw [Bool.and_eq_true]
  exact ⟨by simp only [PyData.canLay0]; exact canLay_dLL pss, decide_eq_true h2⟩
theorem noMix_dLL : ∀ a b : List (List Int), noMixAll (dLL a) (dLL b) = true
  | [], [] => by simp [dLL, noMixAll]
  | [], _ :: _ => by simp [dLL, noMixAll]
  | _ :: _, [] => by simp [dLL, noMixAll]
  | x :: r, y :: q => by
    have ih := noMix_dLL r q
    unfold dLL at ih ⊢
    simp [noMixAll, noMix, noMix_ints x y, ih]
theorem same_dLL : ∀ a b : List (List Int), PySem.Spec.sameAll (dLL a) (dLL b) = decide (a = b)
  | [], [] => by simp [dLL, PySem.Spec.sameAll]
  | [], _ :: _ => by simp [dLL, PySem.Spec.sameAll]
  | _ :: _, [] => by simp [dLL, PySem.Spec.sameAll]
  | x :: r, y :: q => by
    have ih := same_dLL r q
    unfold dLL at ih ⊢
    simp only [List.map_cons, PySem.Spec.sameAll, PySem.Spec.same, same_ints x y, ih]
    by_cases h : x = y <;> simp [h]
section
variable {prog : Program} {w : World} {A : Around} {E : Value → Shared → Prop} {s : Shared} {h : Heap} {tk : Nat} {Q : Value → Shared → Prop} {u v : Value} {a b : List (List Int)}
theorem eqLL (x : LL h u a) (y : LL h v b) (hu : A.units + 64 < cLine) (q : Q (.bool (decide (a = b))) (St s h tk)) : wpAny (model prog w) A (compareOp .Eq u v) Q E (St s h tk) := by
  obtain ⟨as, ra⟩ := readsLL x
  obtain ⟨bs, rb⟩ := readsLL y
  exact eq_dataH_same (s := St s h tk) ra rb (shaped_dLL a) (shaped_dLL b) hu (by simp only [noMix]; exact noMix_dLL a b) (by simp only [PySem.Spec.same]; rw [same_dLL]; exact q)
theorem neLL (x : LL h u a) (y : LL h v b) (hu : A.units + 64 < cLine) (q : Q (.bool (!decide (a = b))) (St s h tk)) : wpAny (model prog w) A (compareOp .NotEq u v) Q E (St s h tk) := by
  obtain ⟨as, ra⟩ := readsLL x
  obtain ⟨bs, rb⟩ := readsLL y
  exact ne_dataH_same (s := St s h tk) ra rb (shaped_dLL a) (shaped_dLL b) hu (by simp only [noMix]; exact noMix_dLL a b) (by simp only [PySem.Spec.same]; rw [same_dLL]; exact q)
end
theorem F2.pick {R : Value → List Int → Prop} {vs : List Value} {pss : List (List Int)} (x : F2 R vs pss) : ∀ l : List Nat, (∀ i ∈ l, i < pss.length) → F2 R (l.map fun i => vs.getD i Value.none) (l.map fun i => pss.getD i [])
  | [], _ => .nil
  | i :: r, h => by
    obtain ⟨a, e, ra⟩ := x.get (i := i) (b := pss.getD i []) (by simp [List.getD, h i (.head _)])
    have : vs.getD i Value.none = a := by simp [List.getD, e]
    rw [List.map_cons, List.map_cons, this]
    exact .cons ra (F2.pick x r fun j hj => h j (.tail _ hj))
section
variable {w : World} {A : Around} {E : Value → Shared → Prop} {s : Shared} {h : Heap} {tk : Nat} {N : Nat} {g0 : Heap} {L fa : Addr} {m : Str → Option Value} {nm : Str} {mr : List (Str × Const)} {mean : ExcName → Option Value} {mg mb : Str → Option Value} {c : Option Value} {q37 q72 : Array Value}
/-- parts = _law_parts(figures) -/
theorem law5 {rest : List Stmt} {Q : Flow → Shared → Prop} {p1 p2 p3 p4 p5 : Pos} {D : Addr} {ys : List Value} {ds : List Int} (x : LS N g0 L h m c q37 q72) (g : G w mean mg mb N g0) (hh : A.handled = none) (hdp : A.depth + 5 < recursionLimit) (hu : A.units + 200 < cLine)
    (hm : m "figures" = some (.ref D)) (hl : h.IsList D (List.toArray ys)) (hi : IntsAre ys ds) (hz : ds.length ≤ 100)
    (q : ∀ v h' tk', LS N g0 L h' (fun y => if y = "parts" then some v else m y) c q37 q72 → KX N L h h' → LL h' v (allP ds ds.length) → wpAny (model prg w) A (execs rest (lawEnv nm mr L fa)) Q E (St s h' tk')) :
    wpAny (model prg w) A (execs (.Assign [.Name "parts" p1] (.Call (.Name "_law_parts" p2) [.Name "figures" p3] [] p4) p5 :: rest) (lawEnv nm mr L fa)) Q E (St s h tk) := by
  refine wA (cN (xG x.fm g (by kernel_rfl) (cwF rfl (evs_cons (xL x.fm hm (evs_nil ⟨(g.fm x.fm).X 70 _ rfl, ?_⟩)))))) sw3
  refine parts (s := St s h tk) (g.fm x.fm) (by omega) (by omega) hh ⟨D, ys, rfl, hl, hi⟩ hz fun v h1 tk1 k1 ll => ?_
  have x1 := x.kp k1
  show wpAny _ _ _ _ _ (St s h1 tk1)
  refine xS x1.fm fun h2 tk2 F2 k2 => ?_
  exact q v h2 tk2 (x1.kb F2 k2) ((KX.kp k1).trans (KX.kb k2)) (ll.kb x1.fm.ns k2)
theorem LS.st (x : LS N g0 L h m c q37 q72) {h' : Heap} {v : Value} {a b d : List (List Int)} (st : ST h v a b d) (k : KX N L h h') : ST h' v a b d := by
  obtain ⟨t, v0, v1, v2, e, ht, l0, l1, l2⟩ := st
  refine ⟨t, v0, v1, v2, e, ?_, x.ll l0 k, x.ll l1 k, x.ll l2 k⟩
  have n1 := isTup_ne ht x.fm.ns
  obtain ⟨o, ho, hc, n, hd⟩ := ht
  refine ⟨o, k.hard n1 (fun z => ?_) (fun z => ?_) (fun z => ?_) ho (seq_hard hd), hc, n, hd⟩
  · obtain ⟨o2, ho2, hd2⟩ := x.cell
    rw [← z, ho] at ho2; cases ho2; rw [hd] at hd2; cases hd2
  · have := x.t37; rw [← z, ho] at this; cases this; cases hd
  · have := x.t72; rw [← z, ho] at this; cases this; cases hd
set_option maxHeartbeats 2000000 in
/-- if ends[0] != sorted(parts): return False -/
theorem law6 {rest : List Stmt} {Q : Flow → Shared → Prop} {body : List Stmt} {p1 p2 p3 p4 p5 p6 p7 p8 : Pos} {ev pv : Value} {E0 E1 E2 P : List (List Int)} (x : LS N g0 L h m c q37 q72) (g : G w mean mg mb N g0) (hu : A.units + 200 < cLine)
    (hm : m "ends" = some ev) (hmp : m "parts" = some pv) (st : ST h ev E0 E1 E2) (ll : LL h pv P) (h2 : 2 ≤ P.length) (h64 : P.length < 64) (nd : P.Nodup) (hX : E0.Pairwise fun a b => ltL a b = true) (hmem : ∀ y, y ∈ E0 ↔ y ∈ P)
    (q : ∀ h' tk', LS N g0 L h' m c q37 q72 → KX N L h h' → wpAny (model prg w) A (execs rest (lawEnv nm mr L fa)) Q E (St s h' tk')) :
    wpAny (model prg w) A (execs (.If (.Compare (.Subscript (.Name "ends" p1) (.Constant (.int 0) 0 p2) p3) [.NotEq] [.Call (.Name "sorted" p4) [.Name "parts" p5] [] p6] p7) body [] p8 :: rest) (lawEnv nm mr L fa)) Q E (St s h tk) := by
  obtain ⟨t, v0, v1, v2, rfl, ht, l0, l1, l2⟩ := id st
  obtain ⟨D, vs, rfl, hl, hf⟩ := id ll
  have hvl := hf.length
  refine wpAny_execs_cons (wpAny_If (wpAny_isTrue_Compare1 (Subscript_ (xL x.fm hm (wCI fun _ _ => wItemT (k := 0) ht (by omega) rfl ?_))) rfl))
  refine cN (xB x.fm g (by kernel_rfl) boot_sorted (cwB (evs_cons (xL x.fm hmp (evs_nil ?_)))))
  refine sortP x.fm hl hf (by omega) (by omega) (by omega) nd fun D' p h1 tk1 F1 k1 l1' hp hasc => ?_
  have x1 := x.kb F1 k1
  have hf1 : F2 (IL h1) (p.toList.map fun i => vs.getD i Value.none) (p.toList.map fun i => P.getD i []) := F2.pick (hf.imp fun _ _ y => y.kb x.fm.ns k1) _ fun i hi => by
    rw [Array.mem_toList_iff] at hi
    have : i < vs.length := by simpa using (Array.Perm.mem_iff hp).mp hi
    omega
  have eX : E0 = p.toList.map fun i => P.getD i [] := sorted_is (lt := ltL) (n := vs.length) hvl.symm hp hasc hX hmem lt_irr fun a b c => lt_tr
  refine neLL (l0.kb x.fm.ns k1) ⟨D', _, rfl, l1', hf1⟩ (by omega) (wpAny_truthy_bool ?_)
  rw [← eX, decide_eq_true rfl]
  refine iteF rfl (wpAny_execs_nil ?_)
  exact q h1 tk1 x1 (KX.kb k1)
end
end Mine
end PartLF7
section PartLF8
open PySem PySem.W PyProof.Rows PySem.Calls
set_option Elab.async false
set_option maxRecDepth 100000
namespace Mine
section
variable {w : World} {A : Around} {E : Value → Shared → Prop} {s : Shared} {h : Heap} {tk : Nat} {N : Nat} {g0 : Heap} {L fa : Addr} {m : Str → Option Value} {nm : Str} {mr : List (Str × Const)} {mean : ExcName → Option Value} {mg mb : Str → Option Value} {c : Option Value} {q37 q72 : Array Value}
theorem IL.k2 {h1 h2 : Heap} {b : Addr} {k : Value} {ns : List Int} {ks : List Value} {e : Nat} {m : Str → Option Value} (x : IL h1 k ns) (hne : ns ≠ []) (hn : h1.Ns L m) (hb : h1.get? b = some (seqObj "list" (List.toArray ks) e)) (refs : ∀ (j : Nat) (y : Value), ks[j]? = some y → ∃ a, y = .ref a) (kk : K2 b L h1 h2) : IL h2 k ns := by
  obtain ⟨a, us, rfl, hl, hi⟩ := x
  have n1 := isList_ne hl hn
  obtain ⟨o, ho, hc, n, hd⟩ := hl
  refine ⟨a, us, rfl, ⟨o, kk _ _ (fun z => ?_) n1 ho, hc, n, hd⟩, hi⟩
  rw [z, hb] at ho
  cases ho
  have hd : Data.seq (List.toArray ks) e = Data.seq us.toArray n := hd
  cases hd
  cases hi with
  | nil => exact hne rfl
  | cons k t r =>
    obtain ⟨a, e⟩ := refs 0 _ rfl
    cases e
set_option maxHeartbeats 4000000 in
/-- return ends[1] + ends[2][::-1] == sorted(parts, key=lambda part: part + [90]) -/
theorem law7 {Q : Flow → Shared → Prop} {params : Arguments} {body : Expr} {scope : Scope} {p1 p2 p3 p4 p5 p6 p7 p8 p9 p10 p11 p12 p13 pl p14 p15 p16 p17 : Pos} {ev pv : Value} {E0 E1 E2 P : List (List Int)} (x : LS N g0 L h m c q37 q72) (g : G w mean mg mb N g0) (C : CodeHd g0 74 72) (hg72 : g0.get? 72 = none)
    (he : lamP (lam3 w) = params ∧ lamB (lam3 w) = body ∧ lamS (lam3 w) = scope)
    (ht : TriplesOk q72.toList) (hnf : codeAmong pl q72.toList = none) (hcl : closureFor scope (lawEnv nm mr L fa) = pure []) (hdef : defaultsOf params (lawEnv nm mr L fa) = ([], []))
    (hh : A.handled = none) (hdp : A.depth + 5 < recursionLimit) (hu : A.units + 200 < cLine)
    (hm : m "ends" = some ev) (hmp : m "parts" = some pv) (st : ST h ev E0 E1 E2) (ll : LL h pv P) (hz1 : E1.length ≤ 1000) (hz2 : E2.length ≤ 1000) (h2 : 2 ≤ P.length) (h64 : P.length < 64) (nd : P.Nodup) (hPl : ∀ y ∈ P, y.length ≤ 1000)
    (hX : (E1 ++ E2.reverse).Pairwise fun a b => lt9 a b = true) (hmem : ∀ y, y ∈ E1 ++ E2.reverse ↔ y ∈ P)
    (q : ∀ h' tk' q72', LS N g0 L h' m c q37 q72' → Q (.ret (.bool true)) (St s h' tk')) :
    wpAny (model prg w) A (execs [.Return (some (.Compare (.BinOp (.Subscript (.Name "ends" p1) (.Constant (.int 1) 0 p2) p3) .Add (.Subscript (.Subscript (.Name "ends" p4) (.Constant (.int 2) 0 p5) p6) (.Slice none none (some (.UnaryOp .USub (.Constant (.int 1) 0 p7) p8)) p9) p10) p11) [.Eq]
      [.Call (.Name "sorted" p12) [.Name "parts" p13] [⟨some "key", .Lambda params body scope pl, p14⟩] p15] p16)) p17] (lawEnv nm mr L fa)) Q E (St s h tk) := by
  obtain ⟨t, v0, v1, v2, rfl, htp, l0, l1, l2⟩ := id st
  obtain ⟨a1, us1, rfl, hl1, hf1⟩ := l1
  obtain ⟨a2, us2, rfl, hl2, hf2⟩ := l2
  have q1 := hf1.length
  have q2 := hf2.length
  refine wpAny_execs_cons (wpAny_Return_some (wpAny_Compare1 (wpAny_BinOp (Subscript_ (xL x.fm hm (wCI fun _ _ => wItemT (k := 1) htp (by omega) rfl ?_))))))
  refine Subscript_ (Subscript_ (xL x.fm hm (wCI fun _ _ => wItemT (k := 2) htp (by omega) rfl (wpAny_Slice (evalPart_none_step (evalPart_none_step (evalPart_some_step (wNeg fun _ _ => ?_))))))))
  refine wRev x.fm hl2 (by omega) fun c3 h3 F3 k3 pl3 => ?_
  refine wCat F3 (isList_kp hl1 k3) pl3.isList (by rw [List.length_reverse]; omega) fun c4 h4 F4 k4 l4 => ?_
  have kb4 : KB N L h h4 := k3.kb.trans k4
  have x4 := x.kb F4 kb4
  have ll4 : LL h4 (.ref c4) (E1 ++ E2.reverse) := ⟨c4, _, rfl, l4, (hf1.imp fun _ _ y => y.kb x.fm.ns kb4).append ((hf2.imp fun _ _ y => y.kb x.fm.ns kb4).reverse)⟩
  have llp := ll.kb x.fm.ns kb4
  obtain ⟨D, vs, rfl, hlp, hfp⟩ := llp
  refine wpAny_Call_ofName (xB x4.fm g (by kernel_rfl) boot_sorted (cwK (xL x4.fm hmp (xLam x4 g C hg72 he ht hnf hcl hdef fun l c' h5 tk5 x5 k5 la5 => ?_))))
  have ll5 := x4.ll ll4 k5
  have hlp5 := x4.list hlp k5
  have hfp5 : F2 (IL h5) vs P := hfp.imp fun _ _ y => x4.il y k5
  have hvl := hfp.length
  have dep : A.in1.in1.depth = A.depth := rfl
  have uni : A.in1.in1.units = A.units + 2 := rfl
  refine sortK (T := .type "list") (lt := fun i j => lt9 (P.getD i []) (P.getD j [])) (fun i k hc => IL hc k (P.getD i [] ++ [90])) x5.fm hlp5 (by omega) (by omega) (ksk_s1 _ _) (fun _ => ksk_l1 _ _) (fun a => ksk_t1 _ a) (fun i k h1 h2 y kk => y.kp kk) ?_ ?_ ?_ (by decide) (by decide) ?_ (fun a b c => lt9_tr _ _ _) (fun a b ha hb hab => lt9_tot ?_) ?_
  · intro i k h6 h7 b ks e y hb hks hn kk
    exact y.k2 (by simp) hn hb (fun j z hz => by obtain ⟨a, _, e, _⟩ := hks j z hz; exact ⟨a, e⟩) kk
  · intro i v h6 tk6 K hv F6 k6 hK
    have hil : i < P.length := by
      have : i < vs.length := by
        apply Nat.lt_of_not_le; intro z; rw [List.getElem?_eq_none z] at hv; cases hv
      omega
    obtain ⟨a, ea, ra⟩ := hfp5.get (i := i) (b := P.getD i []) (by simp [List.getD, hil])
    rw [hv] at ea
    cases ea
    refine lamNine (s := St s h6 tk6) (la5.kb x5.fm.ns k6) (g.fm F6) (by rw [dep]; omega) (ra.kb x5.fm.ns k6) (hPl _ (by simp [List.getD, hil])) fun v' h7 tk7 k7 il7 => ?_
    exact hK v' h7 tk7 k7 il7
  · rintro i k h6 ⟨a, us, rfl, ⟨o, ho, hc, _⟩, _⟩
    rw [← hc]
    exact (Looks.ld ho).andThen .now
  · intro i j y z h6 tk6 K hi hj F6 k6 iy iz hK
    exact keyLtIL iy iz (by rw [uni]; omega) (hK h6 tk6 (Kp.refl _))
  · have ha' : a < P.length := by omega
    have hb' : b < P.length := by omega
    have e1 : P.getD a [] = P[a] := by simp [List.getD, ha']
    have e2 : P.getD b [] = P[b] := by simp [List.getD, hb']
    rw [e1, e2]
    intro z
    exact hab ((List.getElem?_inj ha' nd).mp (by rw [List.getElem?_eq_getElem ha', List.getElem?_eq_getElem hb', z]))
  · intro D' p h6 tk6 F6 k6 l6 hp hasc
    have x6 := x5.kb F6 k6
    have hf6 : F2 (IL h6) (p.toList.map fun i => vs.getD i Value.none) (p.toList.map fun i => P.getD i []) := F2.pick (hfp5.imp fun _ _ y => y.kb x5.fm.ns k6) _ fun i hi => by
      rw [Array.mem_toList_iff] at hi
      have : i < vs.length := by simpa using (Array.Perm.mem_iff hp).mp hi
      omega
    have eX : E1 ++ E2.reverse = p.toList.map fun i => P.getD i [] := sorted_is (lt := lt9) (n := vs.length) hvl.symm hp hasc hX hmem lt9_irr lt9_tr
    refine eqLL (ll5.kb x5.fm.ns k6) ⟨D', _, rfl, l6, hf6⟩ (by omega) ?_
    rw [← eX, decide_eq_true rfl]
    exact q h6 tk6 _ x6
end
end Mine
end PartLF8
section PartP3
open PySem PySem.W PyProof.Rows PySem.Calls
set_option Elab.async false
set_option maxRecDepth 100000
namespace Mine
theorem figs_nat (ns : List Int) : ∃ ds : List Nat, figs ns = ds.map (fun (d : Nat) => (d : Int)) ∧ Dg ds ∧ 3 ≤ ds.length ∧ ds.length ≤ 8 := by
  refine ⟨(ns.take 5).map (fun x => (1 + x.fmod 3).toNat) ++ [2, 1, 2], ?_, ?_, ?_, ?_⟩
  · unfold figs
    rw [List.map_append, List.map_map]
    congr 1
    apply List.map_congr_left
    intro x _
    have h1 : 0 ≤ x.fmod 3 := by rw [Int.fmod_eq_emod_of_nonneg _ (by omega)]; omega
    show 1 + x.fmod 3 = ((1 + x.fmod 3).toNat : Int)
    omega
  · intro d hd
    rcases List.mem_append.mp hd with hd | hd
    · obtain ⟨x, _, rfl⟩ := List.mem_map.mp hd
      have h1 : 0 ≤ x.fmod 3 ∧ x.fmod 3 < 3 := by rw [Int.fmod_eq_emod_of_nonneg _ (by omega)]; omega
      omega
    · simp at hd
      omega
  · simp
  · simp; omega
theorem vI_val : ∀ ds : List Nat, vI (ds.map fun (d : Nat) => (d : Int)) = (val ds : Int) := by
  intro ds
  induction ds using revInd with
  | h0 => rfl
  | h1 b d ih =>
    rw [val_snoc, List.map_append]
    unfold vI at ih ⊢
    rw [List.foldl_append, ih]
    show 16 * (val b : Int) + (d : Int) = _
    omega
/-- the tails' numbers -/
def tlN (ds : List Nat) : List Int := ((List.range ds.length).map fun (i : Nat) => (1 : Int) + (i : Int)).map fun k => (val ds : Int).fmod (16 ^ k.toNat)
theorem tlN_len (ds : List Nat) : (tlN ds).length = ds.length := by simp [tlN]
theorem tlN_get {ds : List Nat} (h : Dg ds) {i : Nat} (hi : i < ds.length) : (tlN ds).getD i 0 = (val (ds.drop (ds.length - (i + 1))) : Int) := by
  have e1 : (tlN ds).getD i 0 = (val ds : Int).fmod (16 ^ ((1 : Int) + (i : Int)).toNat) := by simp [tlN, List.getD, hi]
  have e2 : ((1 : Int) + (i : Int)).toNat = i + 1 := by omega
  rw [e1, e2, ← val_mod h (show i + 1 ≤ ds.length by omega), Int.fmod_eq_emod_of_nonneg _ (by exact Int.pow_nonneg (by decide))]
  norm_cast
theorem tail_lt {ds : List Nat} (h : Dg ds) (hz : ds.length ≤ 8) (k : Nat) : val (ds.drop k) < 2 ^ 60 := by
  have h1 := val_lt _ (h.drop k)
  have h2 : (ds.drop k).length ≤ 8 := by rw [List.length_drop]; omega
  have h3 : 16 ^ (ds.drop k).length ≤ 16 ^ 8 := Nat.pow_le_pow_right (by decide) h2
  omega
theorem tlN_facts {ds : List Nat} (h : Dg ds) (hz : ds.length ≤ 8) {i : Nat} (hi : i < ds.length) :
    0 ≤ (tlN ds).getD i 0 ∧ (tlN ds).getD i 0 < 2 ^ 60 ∧ lets ((tlN ds).getD i 0).toNat = Lt (ds.drop (ds.length - (i + 1))) ∧ begs ((tlN ds).getD i 0).toNat = pre (lets ((tlN ds).getD i 0).toNat) ∧ lets ((tlN ds).getD i 0).toNat ≠ [] ∧ Lo (lets ((tlN ds).getD i 0).toNat) := by
  have hl := tail_lt h hz (ds.length - (i + 1))
  have hd := h.drop (ds.length - (i + 1))
  rw [tlN_get h hi, Int.toNat_natCast, lets_val hd, begs_val _ hd]
  refine ⟨by omega, by omega, rfl, rfl, fun z => ?_, Lt_lo hd⟩
  have := congrArg List.length z
  rw [Lt_len, List.length_drop, List.length_nil] at this
  omega
theorem tlN_all {ds : List Nat} (h : Dg ds) (hz : ds.length ≤ 8) : ∀ a ∈ tlN ds, 0 ≤ a ∧ a < 2 ^ 60 := by
  intro a ha
  obtain ⟨i, hi⟩ := List.mem_iff_getElem?.mp ha
  have hil : i < ds.length := by
    rw [← tlN_len ds]
    apply Nat.lt_of_not_le; intro z; rw [List.getElem?_eq_none z] at hi; cases hi
  have e : (tlN ds).getD i 0 = a := by simp [List.getD, hi]
  have f := tlN_facts h hz hil
  rw [e] at f
  exact ⟨f.1, f.2.1⟩
theorem tlN_dist {ds : List Nat} (h : Dg ds) (hz : ds.length ≤ 8) : ∀ i j, i < (tlN ds).length → j < (tlN ds).length → i ≠ j → lets ((tlN ds).getD i 0).toNat ≠ lets ((tlN ds).getD j 0).toNat := by
  intro i j hi hj hij e
  rw [tlN_len] at hi hj
  rw [(tlN_facts h hz hi).2.2.1, (tlN_facts h hz hj).2.2.1] at e
  have := congrArg List.length e
  rw [Lt_len, Lt_len, List.length_drop, List.length_drop] at this
  omega
/-- the tails in order -/
structure TsOk (ds : List Nat) (ts : List (List Int)) : Prop where
  pw : ts.Pairwise fun a b => ltL a b = true
  mem : ∀ t, t ∈ ts ↔ ∃ i, i < ds.length ∧ t = Lt (ds.drop i)
theorem tsOk {ds : List Nat} (h : Dg ds) (hz : ds.length ≤ 8) {pp : Array Nat} (hp : Pm (tlN ds).length pp) (ha : Asc (fun i j => ltL (lets ((tlN ds).getD i 0).toNat) (lets ((tlN ds).getD j 0).toNat)) pp (tlN ds).length) :
    TsOk ds ((pp.toList.map fun i => (tlN ds).getD i 0).map fun n => lets n.toNat) := by
  have hs := hp.size
  have hl := tlN_len ds
  refine ⟨?_, fun t => ?_⟩
  · rw [List.pairwise_map, List.pairwise_map, List.pairwise_iff_getElem]
    intro i j hi hj hij
    rw [Array.length_toList] at hi hj
    have e1 : pp.toList[i] = pp.getD i 0 := by simp [Array.getD, hi]
    have e2 : pp.toList[j] = pp.getD j 0 := by simp [Array.getD, hj]
    rw [e1, e2]
    exact ha i j hij (by omega)
  · rw [List.map_map, List.mem_map]
    constructor
    · rintro ⟨i, hi, rfl⟩
      rw [Array.mem_toList_iff] at hi
      have hil : i < (tlN ds).length := by simpa using (Array.Perm.mem_iff hp).mp hi
      exact ⟨ds.length - (i + 1), by omega, (tlN_facts h hz (by omega)).2.2.1⟩
    · rintro ⟨i, hi, rfl⟩
      refine ⟨ds.length - 1 - i, ?_, ?_⟩
      · rw [Array.mem_toList_iff]
        exact (Array.Perm.mem_iff hp).mpr (by simp; omega)
      · show lets ((tlN ds).getD (ds.length - 1 - i) 0).toNat = _
        rw [(tlN_facts h hz (by omega)).2.2.1, show ds.length - (ds.length - 1 - i + 1) = i by omega]
theorem TsOk.ends {ds : List Nat} {ts : List (List Int)} (x : TsOk ds ts) (h : Dg ds) (hz : ds.length ≤ 8) (hn : ts.length ≤ 8) :
    let P := allP (ds.map fun (d : Nat) => (d : Int)) ds.length
    (runP ts).1.Pairwise (fun a b => ltL a b = true) ∧ (∀ y, y ∈ (runP ts).1 ↔ y ∈ P) ∧ ((runP ts).2.1 ++ (pre (runP ts).2.2).reverse).Pairwise (fun a b => lt9 a b = true) ∧ (∀ y, y ∈ (runP ts).2.1 ++ (pre (runP ts).2.2).reverse ↔ y ∈ P) ∧
      (runP ts).2.1.length ≤ 1000 ∧ (pre (runP ts).2.2).length ≤ 1000 := by
  intro P
  have tl : ∀ t ∈ ts, t ≠ [] ∧ Lo t := by
    intro t ht
    obtain ⟨i, hi, rfl⟩ := (x.mem t).mp ht
    refine ⟨fun z => ?_, Lt_lo (h.drop i)⟩
    have := congrArg List.length z
    rw [Lt_len, List.length_drop, List.length_nil] at this
    omega
  have t8 : ∀ t ∈ ts, t.length ≤ 8 := by
    intro t ht
    obtain ⟨i, hi, rfl⟩ := (x.mem t).mp ht
    rw [Lt_len, List.length_drop]; omega
  obtain ⟨I, lo, _⟩ := runP_inv ts x.pw tl
  obtain ⟨l1, l2⟩ := I.last lo
  obtain ⟨r1, r2, r3⟩ := runP_len ts 8 t8
  have key : ∀ y, (∃ t ∈ ts, y ≠ [] ∧ y <+: t) ↔ y ∈ P := by
    intro y
    rw [parts_tails]
    constructor
    · rintro ⟨t, ht, h1, h2⟩
      obtain ⟨i, hi, rfl⟩ := (x.mem t).mp ht
      exact ⟨i, hi, h1, h2⟩
    · rintro ⟨i, hi, h1, h2⟩
      exact ⟨_, (x.mem _).mpr ⟨i, hi, rfl⟩, h1, h2⟩
  have hmul : ts.length * 8 ≤ 8 * 8 := Nat.mul_le_mul_right _ hn
  refine ⟨I.e1, fun y => (I.e3 y).trans (key y), l1, fun y => (l2 y).trans (key y), by omega, by rw [pre_len]; omega⟩
theorem parts_len {ds : List Nat} (hz : ds.length ≤ 8) : ∀ y ∈ allP (ds.map fun (d : Nat) => (d : Int)) ds.length, y.length ≤ 1000 := by
  intro y hy
  obtain ⟨i, _, _, hp⟩ := parts_tails.mp hy
  have := hp.length_le
  rw [Lt_len, List.length_drop] at this
  omega
end Mine
end PartP3
section PartLF9
open PySem PySem.W PyProof.Rows PySem.Calls
set_option Elab.async false
set_option maxRecDepth 100000
namespace Mine
section
variable {w : World} {A : Around} {E : Value → Shared → Prop} {s : Shared} {h : Heap} {tk : Nat} {N : Nat} {g0 : Heap} {L fa : Addr} {m : Str → Option Value} {nm : Str} {mr : List (Str × Const)} {mean : ExcName → Option Value} {mg mb : Str → Option Value}
set_option maxHeartbeats 8000000 in
/-- the body of law -/
theorem lawAll {Q : Flow → Shared → Prop} {gd : Option (List Code)} {sl : Addr} {vs : List Value} {ns : List Int} (hA : A = { handled := none, depth := 302, frames := some [lawEnv nm mr L fa], guards := gd, units := 7 })
    (x : LS N g0 L h m none #[] #[]) (g : G w mean mg mb N g0) (C : CodeHd g0 74 72) (hg72 : g0.get? 72 = none) (hg37 : g0.get? 37 = none) (hgc : g0.get? (L + 1) = none)
    (hm : m "script" = some (.ref sl)) (hl : g0.IsList sl vs.toArray) (hi : IntsAre vs ns) (hz : ns.length ≤ 63)
    (q : ∀ h' tk' m' c' q37 q72, LS N g0 L h' m' c' q37 q72 → Q (.ret (.bool true)) (St s h' tk')) :
    wpAny (model prg w) A (execs (lawB w) (lawEnv nm mr L fa)) Q E (St s h tk) := by
  have hh : A.handled = none := by rw [hA]
  have hdp : A.depth + 100 < recursionLimit := by rw [hA]; show 302 + 100 < recursionLimit; decide
  have hu : A.units + 300 < cLine := by rw [hA]; show 7 + 300 < cLine; decide
  have hfr : A.frames = some [lawEnv nm mr L fa] := by rw [hA]
  obtain ⟨dn, hfig, hdg, hd3, hd8⟩ := figs_nat ns
  have hlen : (figs ns).length = dn.length := by rw [hfig]; simp
  have hP : allP (figs ns) (figs ns).length = allP (dn.map fun (d : Nat) => (d : Int)) dn.length := by rw [hlen, hfig]
  refine law0 x.fm hh hm hl hi hz fun D ys h1 tk1 F1 k1 l1 i1 => ?_
  have x1 := x.kb F1 k1
  refine law1 x1 g C hg72 hgc hh (by omega) hfr ⟨rfl, rfl, rfl⟩ trivial rfl rfl rfl rfl l1 i1 fun t c1 h2 tk2 x2 k2 => ?_
  have l2 := x1.list l1 k2
  refine law2 hA x2 g C hg72 hg37 ⟨rfl, rfl, rfl⟩ trivial (by rfl) rfl rfl fun p l c2 tb h3 tk3 x3 k3 ke la hLp => ?_
  have l3 := x2.list l2 k3
  rw [hfig, vI_val] at x3
  rw [hfig] at i1
  refine law3 (tl := tlN dn) x3 g ke la hLp hh (by omega) (by omega) rfl rfl l3 i1 (by simp; omega) (by simp; omega) (by simp [tlN]) (tlN_all hdg hd8) (tlN_dist hdg hd8) fun D' us pp h4 tk4 x4 k4 l4 i4 hp hasc => ?_
  have l4' := x3.list l3 k4
  have ok := tsOk hdg hd8 hp hasc
  have hpl : pp.toList.length = dn.length := by rw [Array.length_toList, hp.size, tlN_len]
  have hps : pp.size = dn.length := by rw [hp.size, tlN_len]
  refine law4 x4 g hh (by omega) (by omega) hfr rfl l4 i4 rfl (by simp; omega) (fun n hn => ?_) ok.pw fun ev h5 tk5 x5 k5 st5 => ?_
  · obtain ⟨i, hi', rfl⟩ := List.mem_map.mp hn
    rw [Array.mem_toList_iff] at hi'
    have hil : i < (tlN dn).length := by simpa using (Array.Perm.mem_iff hp).mp hi'
    rw [tlN_len] at hil
    have f := tlN_facts hdg hd8 hil
    exact ⟨f.1, f.2.1, f.2.2.2⟩
  have l5 := x4.list l4' k5
  refine law5 x5 g hh (by omega) (by omega) rfl l5 i1 (by simp; omega) fun pv h6 tk6 x6 k6 ll6 => ?_
  have st6 := x5.st st5 k6
  have hlm : (dn.map fun (d : Nat) => (d : Int)).length = dn.length := by simp
  rw [hlm] at ll6
  obtain ⟨e1, e2, e3, e4, e5, e6⟩ := ok.ends hdg hd8 (by simp; omega)
  have p2 : 2 ≤ (allP (dn.map fun (d : Nat) => (d : Int)) dn.length).length := by
    have := allP_two (ds := dn.map fun (d : Nat) => (d : Int)) (by simp; omega)
    rwa [hlm] at this
  have p64 : (allP (dn.map fun (d : Nat) => (d : Int)) dn.length).length < 64 := by
    have := allP_lt64 (ds := dn.map fun (d : Nat) => (d : Int)) (by simp; omega)
    rwa [hlm] at this
  refine law6 x6 g (by omega) rfl rfl st6 ll6 p2 p64 (nodup_allP _) e1 e2 fun h7 tk7 x7 k7 => ?_
  refine law7 x7 g C hg72 ⟨rfl, rfl, rfl⟩ trivial (by rfl) rfl rfl hh (by omega) (by omega) rfl rfl (x6.st st6 k7) (x6.ll ll6 k7) e5 e6 p2 p64 (nodup_allP _) (parts_len hd8) e3 e4 fun h8 tk8 q72' x8 => ?_
  exact q h8 tk8 _ _ _ _ x8
end
end Mine
end PartLF9
open PySem PySem.W PyProof.Rows
set_option Elab.async false
set_option maxRecDepth 100000 in
set_option maxHeartbeats 8000000 in
theorem PySem.Challenge.cw_oc0040_01_holds : PySem.Challenge.rw_oc0040_01.Holds := by
  refine Mine.hd ?_
  k_go0
  rename_i w s₀ s₁ mg mb G0 Y fa o pm doc ho hg X V T B TE TW hcd ns hs hlay0 hL hr hl2 as1 as2 sl vs as3 hL2 ra w1 r0 hI hr2 hc1 hc2 hD h₁ tk₁ oc right X0 X' T' K' F' C41 N' l0
  have hgs : (ghostOf s₁.heap [(41, 37), (74, 72)]).objs.size = s₁.heap.objs.size := hideAll_size _ _
  have g : Mine.G w (ExcName.means s₀.heap) mg mb s₁.heap.objs.size (ghostOf s₁.heap [(41, 37), (74, 72)]) := ⟨⟨_, Nat.le_of_eq hgs, X', T', fun _ _ e => e⟩, Nat.le_of_eq hgs.symm⟩
  have n0 := N' _ (.head _)
  have n1 := N' _ (.tail _ (.head _))
  have n2 := N' _ (.tail _ (.tail _ (.head _)))
  have C : CodeHd (ghostOf s₁.heap [(41, 37), (74, 72)]) 74 72 := by assumption
  have x : Mine.LS s₁.heap.objs.size (ghostOf s₁.heap [(41, 37), (74, 72)]) s₁.heap.objs.size h₁ _ none #[] #[] :=
    ⟨⟨⟨F'.ns, fun b o e => F'.keep b o (Mine.hid_some.mp e).1, by rw [Mine.hid_size]; exact F'.above⟩, Mine.KB.strict fun b o _ e => F'.keep b o e, Heap.get?_none_of_le (Nat.le_of_eq hgs), Nat.le_refl _⟩, ⟨_, n0.1, right⟩, n1.1, n2.1⟩
  refine Mine.lawAll (nm := Str.ofString "law") (mr := _) (fa := fa) rfl x g C n2.2.2 n1.2.2 n0.2.2 rfl lifted hI (by omega) fun h' tk' m' c' q37 q72 x' => ?_
  refine ⟨⟨.inl ⟨.bool true, .bool true, [], rfl, fun _ => rfl, ReadsW.bool true, ?_, fun _ => ⟨List.nodup_nil, fun _ hm => (nomatch hm)⟩⟩, fun b o e => ?_, rfl, hg⟩, ⟨q37, x'.t37⟩, ⟨q72, x'.t72⟩, trivial⟩
  · first | rfl | wrow_post
  · obtain ⟨sl, e1, hh⟩ := x'.fm.kp b o e
    have hs : ¬ Mine.soft s₁.heap.objs.size b o := fun z => absurd (Nat.lt_of_lt_of_le (Heap.lt_size e) (Nat.le_trans (Nat.le_of_eq hgs) z.1)) (Nat.lt_irrefl _)
    rw [hh hs] at e1
    exact e1
