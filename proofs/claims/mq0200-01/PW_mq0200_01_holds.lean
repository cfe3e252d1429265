import PyProof.Rows.All
import Wide.All
import OpenK.AllK
import Wide.FinOn
import PySem.Challenge.RW_mq0200_01
open PySem PySem.W PyProof.Rows
set_option Elab.async false
set_option maxRecDepth 100000


namespace Mine

/-- the same object, or a frame's dict with other slots -/
def UpTo (o o' : Obj) : Prop := o' = o ∨ ((∃ es ep, o.data = .dict es ep) ∧ ∃ sl, o' = { o with slots := sl })
theorem UpTo.refl (o : Obj) : UpTo o o := .inl rfl
theorem UpTo.data {o o' : Obj} (x : UpTo o o') : o'.data = o.data := by
  rcases x with rfl | ⟨_, sl, rfl⟩ <;> rfl
theorem UpTo.trans {o o' o'' : Obj} (x : UpTo o o') (y : UpTo o' o'') : UpTo o o'' := by
  rcases x with rfl | ⟨hd, sl, rfl⟩
  · exact y
  · rcases y with rfl | ⟨_, sl', rfl⟩
    · exact .inr ⟨hd, sl, rfl⟩
    · exact .inr ⟨hd, sl', rfl⟩
theorem UpTo.same {o o' : Obj} (x : UpTo o o') (h : ∀ es ep, o.data ≠ .dict es ep) : o' = o := by
  rcases x with rfl | ⟨⟨es, ep, hd⟩, _⟩
  · rfl
  · exact absurd hd (h es ep)

/-- from s to s': only the heap and the tokens turn; all objects of s but those at X stand (a frame's dict up to slots); the base stands -/
structure Go (B : Heap) (X : List Addr) (s s' : Shared) : Prop where
  same : s' = { s with heap := s'.heap, toks := s'.toks }
  ext : ∀ b o, b ∉ X → s.heap.get? b = some o → ∃ o', s'.heap.get? b = some o' ∧ UpTo o o'
  base : B.StaysIn s.heap → B.StaysIn s'.heap

theorem Go.refl (B : Heap) (X : List Addr) (s : Shared) : Go B X s s :=
  ⟨rfl, fun _ o _ e => ⟨o, e, .refl o⟩, id⟩
theorem Go.trans {B : Heap} {X : List Addr} {s s' s'' : Shared} (x : Go B X s s') (y : Go B X s' s'') : Go B X s s'' := by
  refine ⟨?_, fun b o hb e => ?_, fun h => y.base (x.base h)⟩
  · rw [y.same, x.same]
  · obtain ⟨o1, e1, u1⟩ := x.ext b o hb e
    obtain ⟨o2, e2, u2⟩ := y.ext b _ hb e1
    exact ⟨o2, e2, u1.trans u2⟩
theorem Go.mono {B : Heap} {X Y : List Addr} {s s' : Shared} (x : Go B X s s') (h : ∀ b ∈ X, b ∈ Y) : Go B Y s s' :=
  ⟨x.same, fun b o hb e => x.ext b o (fun hX => hb (h b hX)) e, x.base⟩
theorem Go.nil {B : Heap} {Y : List Addr} {s s' : Shared} (x : Go B [] s s') : Go B Y s s' := x.mono fun _ h => (nomatch h)

/-- a step that keeps every object exactly -/
theorem Go.keep {B : Heap} {X : List Addr} {s : Shared} {h' : Heap} {tk : Nat} (k : ∀ b o, s.heap.get? b = some o → h'.get? b = some o) : Go B X s { s with heap := h', toks := tk } :=
  ⟨rfl, fun b o _ e => ⟨o, k b o e, .refl o⟩, fun hB b o e => k b o (hB b o e)⟩
theorem Go.toks {B : Heap} {X : List Addr} {s : Shared} {tk : Nat} : Go B X s { s with toks := tk } := Go.keep (s := s) (h' := s.heap) fun _ _ e => e
theorem Go.push {B : Heap} {X : List Addr} {s : Shared} (o : Obj) {tk : Nat} : Go B X s { s with heap := s.heap.push o, toks := tk } := Go.keep fun _ _ e => Heap.get?_push_of_some o e
/-- a step that turns the object at a alone -/
theorem Go.but {B : Heap} {a : Addr} {s : Shared} {h' : Heap} {tk : Nat} (k : ∀ b o, b ≠ a → s.heap.get? b = some o → h'.get? b = some o) (hB : B.get? a = none) : Go B [a] s { s with heap := h', toks := tk } :=
  ⟨rfl, fun b o hb e => ⟨o, k b o (fun q => hb (by rw [q]; exact .head _)) e, .refl o⟩, fun hS b o e => k b o (fun q => by rw [q, hB] at e; cases e) (hS b o e)⟩
/-- … which the first state did not have -/
theorem Go.fresh {B : Heap} {X : List Addr} {s₀ s : Shared} {a : Addr} {h' : Heap} {tk : Nat} (x : Go B X s₀ s) (hn : s₀.heap.get? a = none) (hB : B.get? a = none)
    (k : ∀ b o, b ≠ a → s.heap.get? b = some o → h'.get? b = some o) : Go B X s₀ { s with heap := h', toks := tk } := by
  refine ⟨?_, fun b o hb e => ?_, fun hS b o e => ?_⟩
  · rw [x.same]
  · obtain ⟨o1, e1, u1⟩ := x.ext b o hb e
    exact ⟨o1, k b _ (fun q => by rw [q, hn] at e; cases e) e1, u1⟩
  · exact k b o (fun q => by rw [q, hB] at e; cases e) (x.base hS b o e)

theorem none_of_stays {B h : Heap} {a : Addr} (hS : B.StaysIn h) (hn : h.get? a = none) : B.get? a = none := by
  cases q : B.get? a with
  | none => rfl
  | some o => rw [hS a o q] at hn; cases hn

/-! facts that a Go keeps -/
theorem Go.exact {B : Heap} {X : List Addr} {s s' : Shared} {b : Addr} {o : Obj} (g : Go B X s s') (hb : b ∉ X) (h : s.heap.get? b = some o) (hd : ∀ es ep, o.data ≠ .dict es ep) : s'.heap.get? b = some o := by
  obtain ⟨o1, e1, u1⟩ := g.ext b o hb h
  rw [e1, u1.same hd]
theorem Go.ns {B : Heap} {X : List Addr} {s s' : Shared} {L : Addr} {m : Str → Option Value} (g : Go B X s s') (hL : L ∉ X) (x : s.heap.Ns L m) : s'.heap.Ns L m := by
  obtain ⟨o, es, ep, e, hd, r⟩ := x
  obtain ⟨o1, e1, u1⟩ := g.ext L o hL e
  exact ⟨_, es, ep, e1, u1.data.trans hd, r⟩
theorem Go.isList {B : Heap} {X : List Addr} {s s' : Shared} {l : Addr} {vs : Array Value} (g : Go B X s s') (hl : l ∉ X) (x : s.heap.IsList l vs) : s'.heap.IsList l vs := by
  obtain ⟨o, e, hc, n, hd⟩ := x
  exact ⟨o, g.exact hl e (fun es ep q => by rw [hd] at q; cases q), hc, n, hd⟩
theorem Go.plain {B : Heap} {X : List Addr} {s s' : Shared} {l : Addr} {vs : Array Value} (g : Go B X s s') (hl : l ∉ X) (x : s.heap.PlainList l vs) : s'.heap.PlainList l vs := by
  obtain ⟨n, e⟩ := x
  exact ⟨n, g.exact hl e (fun es ep q => by cases q)⟩
theorem Go.isCell {B : Heap} {X : List Addr} {s s' : Shared} {c : Addr} {v : Option Value} (g : Go B X s s') (hc : c ∉ X) (x : s.heap.IsCell c v) : s'.heap.IsCell c v := by
  obtain ⟨o, e, hd⟩ := x
  exact ⟨o, g.exact hc e (fun es ep q => by rw [hd] at q; cases q), hd⟩
theorem Go.listIter {B : Heap} {X : List Addr} {s s' : Shared} {a l : Addr} {i : Nat} (g : Go B X s s') (hl : a ∉ X) (x : s.heap.IsListIter a l i) : s'.heap.IsListIter a l i := by
  obtain ⟨o, e, hc, hd⟩ := x
  exact ⟨o, g.exact hl e (fun es ep q => by rw [hd] at q; cases q), hc, hd⟩
theorem Go.stays {B : Heap} {X : List Addr} {s s' : Shared} (g : Go B X s s') (h : B.StaysIn s.heap) : B.StaysIn s'.heap := g.base h
theorem plain_isList {h : Heap} {l : Addr} {vs : Array Value} (x : h.PlainList l vs) : h.IsList l vs := by
  obtain ⟨n, e⟩ := x
  exact ⟨_, e, rfl, n, rfl⟩

/-! pairs of texts: tuples -/
abbrev Pr := Str × Str
def TupAt (h : Heap) (v : Value) (p : Pr) : Prop := ∃ a o n t u, v = .ref a ∧ h.get? a = some o ∧ o.cls = .type "tuple" ∧ o.data = .seq #[.str p.1 t, .str p.2 u] n
def TupsAt (h : Heap) : List Value → List Pr → Prop
  | [], [] => True
  | v :: vs, p :: ps => TupAt h v p ∧ TupsAt h vs ps
  | _, _ => False
/-- X holds no tuple of h -/
def NoTup (h : Heap) (X : List Addr) : Prop := ∀ a ∈ X, ∀ o, h.get? a = some o → o.cls ≠ .type "tuple" ∨ ∀ xs n, o.data ≠ .seq xs n
theorem NoTup.nil {h : Heap} : NoTup h [] := fun _ h => (nomatch h)
theorem TupAt.go {B : Heap} {X : List Addr} {s s' : Shared} {v : Value} {p : Pr} (x : TupAt s.heap v p) (g : Go B X s s') (hX : NoTup s.heap X) : TupAt s'.heap v p := by
  obtain ⟨a, o, n, t, u, rfl, e, hc, hd⟩ := x
  have ha : a ∉ X := fun q => by
    rcases hX a q o e with h | h
    · exact h hc
    · exact h _ _ hd
  exact ⟨a, o, n, t, u, rfl, g.exact ha e (fun es ep q => by rw [hd] at q; cases q), hc, hd⟩
theorem TupsAt.go {B : Heap} {X : List Addr} {s s' : Shared} : ∀ {vs : List Value} {ps : List Pr}, TupsAt s.heap vs ps → Go B X s s' → NoTup s.heap X → TupsAt s'.heap vs ps
  | [], [], _, _, _ => trivial
  | _ :: _, _ :: _, ⟨x, r⟩, g, hX => ⟨x.go g hX, TupsAt.go r g hX⟩
  | [], _ :: _, x, _, _ => x.elim
  | _ :: _, [], x, _, _ => x.elim
theorem TupsAt.length {h : Heap} : ∀ {vs : List Value} {ps : List Pr}, TupsAt h vs ps → vs.length = ps.length
  | [], [], _ => rfl
  | _ :: vs, _ :: ps, ⟨_, r⟩ => by rw [List.length_cons, List.length_cons, TupsAt.length r]
  | [], _ :: _, x => x.elim
  | _ :: _, [], x => x.elim
theorem TupsAt.get {h : Heap} : ∀ {vs : List Value} {ps : List Pr} {i : Nat} {v : Value}, TupsAt h vs ps → vs[i]? = some v → ∃ p, ps[i]? = some p ∧ TupAt h v p
  | v :: vs, p :: ps, 0, _, ⟨x, _⟩, e => by cases e; exact ⟨p, rfl, x⟩
  | v :: vs, p :: ps, i + 1, _, ⟨_, r⟩, e => TupsAt.get (i := i) r e
  | [], [], _, _, _, e => by cases e
  | [], _ :: _, _, _, x, _ => x.elim
  | _ :: _, [], _, _, x, _ => x.elim
theorem TupsAt.append {h : Heap} : ∀ {vs : List Value} {ps : List Pr} {ws : List Value} {qs : List Pr}, TupsAt h vs ps → TupsAt h ws qs → TupsAt h (vs ++ ws) (ps ++ qs)
  | [], [], _, _, _, y => y
  | _ :: _, _ :: _, _, _, ⟨x, r⟩, y => ⟨x, TupsAt.append r y⟩
  | [], _ :: _, _, _, x, _ => x.elim
  | _ :: _, [], _, _, x, _ => x.elim
theorem TupsAt.one {h : Heap} {v : Value} {p : Pr} (x : TupAt h v p) : TupsAt h [v] [p] := ⟨x, trivial⟩
theorem TupsAt.drop {h : Heap} : ∀ {vs : List Value} {ps : List Pr} (i : Nat), TupsAt h vs ps → TupsAt h (vs.drop i) (ps.drop i)
  | vs, ps, 0, x => by simpa using x
  | _ :: vs, _ :: ps, i + 1, ⟨_, r⟩ => by simpa using TupsAt.drop i r
  | [], [], _ + 1, _ => by simp [TupsAt]
  | [], _ :: _, _ + 1, x => x.elim
  | _ :: _, [], _ + 1, x => x.elim

/-- a list of pairs -/
def ListAt (h : Heap) (v : Value) (ps : List Pr) : Prop := ∃ l vs, v = .ref l ∧ h.IsList l vs.toArray ∧ TupsAt h vs ps
/-- X holds no list of h -/
def NoSeq (h : Heap) (X : List Addr) : Prop := ∀ a ∈ X, ∀ o, h.get? a = some o → ∀ xs n, o.data ≠ .seq xs n
theorem NoSeq.nil {h : Heap} : NoSeq h [] := fun _ h => (nomatch h)
theorem NoSeq.tup {h : Heap} {X : List Addr} (x : NoSeq h X) : NoTup h X := fun a ha o e => .inr (x a ha o e)
theorem NoSeq.ns {h : Heap} {L : Addr} {m : Str → Option Value} (x : h.Ns L m) : NoSeq h [L] := by
  intro a ha o e xs n q
  rw [List.mem_singleton.mp ha] at e
  obtain ⟨o', es, ep, e', hd, _⟩ := x
  rw [e'] at e; cases e; rw [hd] at q; cases q
theorem NoSeq.cell {h : Heap} {c : Addr} {v : Option Value} (x : h.IsCell c v) : NoSeq h [c] := by
  intro a ha o e xs n q
  rw [List.mem_singleton.mp ha] at e
  obtain ⟨o', e', hd⟩ := x
  rw [e'] at e; cases e; rw [hd] at q; cases q
theorem NoTup.list {h : Heap} {l : Addr} {vs : Array Value} (x : h.IsList l vs) : NoTup h [l] := by
  intro a ha o e
  rw [List.mem_singleton.mp ha] at e
  obtain ⟨o', e', hc, _⟩ := x
  rw [e'] at e; cases e; exact .inl (by rw [hc]; decide)
theorem ListAt.go {B : Heap} {X : List Addr} {s s' : Shared} {v : Value} {ps : List Pr} (x : ListAt s.heap v ps) (g : Go B X s s') (hX : NoTup s.heap X) (hl : ∀ l, v = .ref l → l ∉ X) : ListAt s'.heap v ps := by
  obtain ⟨l, vs, rfl, hL, hT⟩ := x
  exact ⟨l, vs, rfl, g.isList (hl l rfl) hL, hT.go g hX⟩
end Mine

namespace Mine

/-! the data of a pair -/
def Okp (p : Pr) : Prop := PyData.strOk p.1 = true ∧ PyData.strOk p.2 = true
def pd (p : Pr) : PyData := .tuple [.str p.1, .str p.2]

def ltS (a b : Str) : Bool := decide (a.cps.toList < b.cps.toList)
def plt (p q : Pr) : Bool := if p.1 = q.1 then ltS p.2 q.2 else ltS p.1 q.1

theorem TupAt.reads {h : Heap} {v : Value} {p : Pr} (x : TupAt h v p) : Reads h v (pd p) [] := by
  obtain ⟨a, o, n, t, u, rfl, e, hc, hd⟩ := x
  exact .tuple e hc hd (.cons (.str _ _) (.cons (.str _ _) .nil))
theorem TupsAt.reads {h : Heap} : ∀ {vs : List Value} {ps : List Pr}, TupsAt h vs ps → ReadsAll h vs (ps.map pd) []
  | [], [], _ => .nil
  | _ :: _, _ :: _, ⟨x, r⟩ => by
    have := ReadsAll.cons x.reads r.reads
    simpa using this
  | [], _ :: _, x => x.elim
  | _ :: _, [], x => x.elim
theorem ListAt.reads {h : Heap} {v : Value} {ps : List Pr} (x : ListAt h v ps) : ∃ as, Reads h v (.list (ps.map pd)) as := by
  obtain ⟨l, vs, rfl, ⟨o, e, hc, n, hd⟩, hT⟩ := x
  exact ⟨_, .list e hc hd (by simpa using hT.reads)⟩

theorem canLay_pd {p : Pr} (h : Okp p) : (pd p).canLay0 = true := by
  simp [pd, PyData.canLay0, PyData.canLayAll0, h.1, h.2]
theorem canLayAll_pd : ∀ {ps : List Pr}, (∀ p ∈ ps, Okp p) → PyData.canLayAll0 (ps.map pd) = true
  | [], _ => by simp [PyData.canLayAll0]
  | p :: ps, h => by
    simp only [List.map_cons, PyData.canLayAll0, Bool.and_eq_true]
    exact ⟨canLay_pd (h p (.head _)), canLayAll_pd fun q hq => h q (.tail _ hq)⟩
theorem depth_pd (p : Pr) : (pd p).depth = 1 := by simp [pd, PyData.depth, PyData.depthAll]
theorem depthAll_pd : ∀ ps : List Pr, PyData.depthAll (ps.map pd) ≤ 1
  | [] => by simp [PyData.depthAll]
  | p :: ps => by
    have := depthAll_pd ps
    simp only [List.map_cons, PyData.depthAll, depth_pd]
    omega
theorem eqv_pd (p q : Pr) : PyData.eqv (pd p) (pd q) = decide (p = q) := by
  obtain ⟨a, b⟩ := p
  obtain ⟨c, d⟩ := q
  simp only [pd, PyData.eqv, PyData.eqvAll, Bool.and_true]
  by_cases h1 : a = c
  · by_cases h2 : b = d
    · simp [h1, h2]
    · simp [h1, h2]
  · simp [h1]
theorem eqvAll_pd : ∀ ps qs : List Pr, PyData.eqvAll (ps.map pd) (qs.map pd) = decide (ps = qs)
  | [], [] => by simp [PyData.eqvAll]
  | [], _ :: _ => by simp [PyData.eqvAll]
  | _ :: _, [] => by simp [PyData.eqvAll]
  | p :: ps, q :: qs => by
    simp only [List.map_cons, PyData.eqvAll, eqv_pd, eqvAll_pd ps qs, List.cons.injEq, Bool.decide_and]
theorem any_pd (p : Pr) : ∀ ps : List Pr, ((ps.map pd).any fun y => PyData.eqv y (pd p)) = decide (p ∈ ps)
  | [] => by simp
  | q :: ps => by
    simp only [List.map_cons, List.any_cons, eqv_pd, any_pd p ps, List.mem_cons]
    by_cases h : q = p
    · simp [h]
    · have h' : ¬ p = q := fun e => h e.symm
      simp [h, h']

section
variable {prog : Program} {w : World} {A : Around} {E : Value → Shared → Prop} {s : Shared} {Q : Value → Shared → Prop} {v u : Value} {p q : Pr} {ps qs : List Pr}

theorem eq_pair (x : TupAt s.heap v p) (y : TupAt s.heap u q) (hp : Okp p) (hq : Okp q) (hu : A.units + 64 < cLine) (h : Q (.bool (decide (p = q))) s) : wpAny (model prog w) A (compareOp .Eq v u) Q E s :=
  PySem.SeqAt.compareEq_reads x.reads y.reads (canLay_pd hp) (canLay_pd hq) (by rw [depth_pd, depth_pd]; omega) (by rw [eqv_pd]; exact h)
theorem notIn_pairs (x : TupAt s.heap v p) (y : ListAt s.heap u ps) (hp : Okp p) (hq : ∀ q ∈ ps, Okp q) (hu : A.units + 64 < cLine) (h : Q (.bool (!decide (p ∈ ps))) s) : wpAny (model prog w) A (compareOp .NotIn v u) Q E s := by
  obtain ⟨as, r⟩ := y.reads
  refine PySem.SeqAt.notIn_list_reads r x.reads (canLayAll_pd hq) (canLay_pd hp) ?_ (by rw [any_pd]; exact h)
  have := depthAll_pd ps
  rw [depth_pd]; omega
theorem ne_lists (x : ListAt s.heap v ps) (y : ListAt s.heap u qs) (hp : ∀ q ∈ ps, Okp q) (hq : ∀ q ∈ qs, Okp q) (hu : A.units + 64 < cLine) (h : Q (.bool (!decide (ps = qs))) s) : wpAny (model prog w) A (compareOp .NotEq v u) Q E s := by
  obtain ⟨as, r⟩ := x.reads
  obtain ⟨bs, r'⟩ := y.reads
  refine PySem.SeqAt.compareNe_reads r r' (by simpa [PyData.canLay0] using canLayAll_pd hp) (by simpa [PyData.canLay0] using canLayAll_pd hq) ?_ (by simp only [PyData.eqv, eqvAll_pd]; exact h)
  have := depthAll_pd ps
  simp only [PyData.depth]; omega
end

/-! < and > of two pairs -/
section
variable {prog : Program} {w : World} {A : Around} {E : Value → Shared → Prop} {s : Shared} {Q : Value → Shared → Prop} {v u : Value} {p q : Pr}

theorem gt_str {x y : Str} {t u : Tok} (h : Q (.bool (ltS y x)) s) : wpAny (model prog w) A (richCompare .Gt (.str x t) (.str y u)) Q E s :=
  compareOp_gives (op := .Gt) (typeIs_str s x t) (typeIs_str s y u) F.slot_str_gt F.entry_str_gt (F.args_str_gt_2 _ _) (gives_str_gt x y t u) (fun e => nomatch e) h
theorem lt_str' {x y : Str} {t u : Tok} (h : Q (.bool (ltS x y)) s) : wpAny (model prog w) A (richCompare .Lt (.str x t) (.str y u)) Q E s :=
  P.lt_str h

theorem lt_pair (x : TupAt s.heap v p) (y : TupAt s.heap u q) (hu : A.units + 64 < cLine) (h : Q (.bool (plt p q)) s) : wpAny (model prog w) A (compareOp .Lt v u) Q E s := by
  obtain ⟨a, o, n, t1, t2, rfl, e, hc, hd⟩ := x
  obtain ⟨b, o', n', u1, u2, rfl, e', hc', hd'⟩ := y
  have hTa : s.TypeIs (.ref a) "tuple" := ⟨o, e, hc⟩
  have hTb : s.TypeIs (.ref b) "tuple" := ⟨o', e', hc'⟩
  refine wpAny_richCompare_same_room (op := .Lt) hTa hTb F.slot_tuple_lt (wpAny_call_entry F.slot_tuple_lt hTa F.entry_tuple_lt ?_ (F.args_tuple_lt_2 _ _)) (by omega)
  show wpAny _ _ (isInstance (.ref b) (.type "tuple") >>= _) _ _ s
  refine wpAny_bind (wpAny_isInstance hTb isSubtype_tuple_tuple ?_)
  simp only [Bool.not_true, Bool.false_eq_true, if_false]
  refine wpAny_bind (wpAny_tupleItemsOf e hd ?_)
  refine wpAny_bind (wpAny_tupleItemsOf e' hd' ?_)
  simp only [List.zip_cons_cons, List.zip_nil_right, List.forIn_cons, List.forIn_nil]
  refine wpAny_bind (wpAny_bind (wpAny_bind (wpAny_eqBool_str ?_)))
  unfold plt at h
  by_cases h1 : p.1 = q.1
  · have h1' : q.1 = p.1 := h1.symm
    (first | rw [if_pos h1] at h | rw [if_pos h1'] at h)
    rw [decide_eq_true h1]
    simp only [Bool.not_true, Bool.false_eq_true, if_false]
    refine wpAny_pure ?_
    refine wpAny_bind (wpAny_bind (wpAny_eqBool_str ?_))
    by_cases h2 : p.2 = q.2
    · rw [decide_eq_true h2]
      simp only [Bool.not_true, Bool.false_eq_true, if_false]
      refine wpAny_pure (wpAny_pure ?_)
      refine wpAny_pure ⟨_, rfl, (fun e => nomatch e), ?_⟩
      rw [h2] at h
      have e0 : ltS q.2 q.2 = false := by simp [ltS]
      rw [e0] at h
      exact h
    · rw [decide_eq_false h2]
      simp only [Bool.not_false, if_true]
      refine wpAny_bind (wpAny_rule (wpAny_bind (lt_str' (wpAny_bind (wpAny_pure (wpAny_pure (wpAny_pure (wpAny_pure ⟨_, rfl, (fun e => nomatch e), h⟩))))))))
  · have h1' : ¬ q.1 = p.1 := fun e => h1 e.symm
    (first | rw [if_neg h1] at h | rw [if_neg h1'] at h)
    rw [decide_eq_false h1]
    simp only [Bool.not_false, if_true]
    refine wpAny_bind (wpAny_rule (wpAny_bind (lt_str' (wpAny_bind (wpAny_pure (wpAny_pure (wpAny_pure (wpAny_pure ⟨_, rfl, (fun e => nomatch e), h⟩))))))))
theorem gt_pair (x : TupAt s.heap v p) (y : TupAt s.heap u q) (hu : A.units + 64 < cLine) (h : Q (.bool (plt q p)) s) : wpAny (model prog w) A (compareOp .Gt v u) Q E s := by
  obtain ⟨a, o, n, t1, t2, rfl, e, hc, hd⟩ := x
  obtain ⟨b, o', n', u1, u2, rfl, e', hc', hd'⟩ := y
  have hTa : s.TypeIs (.ref a) "tuple" := ⟨o, e, hc⟩
  have hTb : s.TypeIs (.ref b) "tuple" := ⟨o', e', hc'⟩
  refine wpAny_richCompare_same_room (op := .Gt) hTa hTb F.slot_tuple_gt (wpAny_call_entry F.slot_tuple_gt hTa F.entry_tuple_gt ?_ (F.args_tuple_gt_2 _ _)) (by omega)
  show wpAny _ _ (isInstance (.ref b) (.type "tuple") >>= _) _ _ s
  refine wpAny_bind (wpAny_isInstance hTb isSubtype_tuple_tuple ?_)
  simp only [Bool.not_true, Bool.false_eq_true, if_false]
  refine wpAny_bind (wpAny_tupleItemsOf e hd ?_)
  refine wpAny_bind (wpAny_tupleItemsOf e' hd' ?_)
  simp only [List.zip_cons_cons, List.zip_nil_right, List.forIn_cons, List.forIn_nil]
  refine wpAny_bind (wpAny_bind (wpAny_bind (wpAny_eqBool_str ?_)))
  unfold plt at h
  by_cases h1 : p.1 = q.1
  · have h1' : q.1 = p.1 := h1.symm
    (first | rw [if_pos h1] at h | rw [if_pos h1'] at h)
    rw [decide_eq_true h1]
    simp only [Bool.not_true, Bool.false_eq_true, if_false]
    refine wpAny_pure ?_
    refine wpAny_bind (wpAny_bind (wpAny_eqBool_str ?_))
    by_cases h2 : p.2 = q.2
    · rw [decide_eq_true h2]
      simp only [Bool.not_true, Bool.false_eq_true, if_false]
      refine wpAny_pure (wpAny_pure ?_)
      refine wpAny_pure ⟨_, rfl, (fun e => nomatch e), ?_⟩
      rw [h2] at h
      have e0 : ltS q.2 q.2 = false := by simp [ltS]
      rw [e0] at h
      exact h
    · rw [decide_eq_false h2]
      simp only [Bool.not_false, if_true]
      refine wpAny_bind (wpAny_rule (wpAny_bind (gt_str (wpAny_bind (wpAny_pure (wpAny_pure (wpAny_pure (wpAny_pure ⟨_, rfl, (fun e => nomatch e), h⟩))))))))
  · have h1' : ¬ q.1 = p.1 := fun e => h1 e.symm
    (first | rw [if_neg h1] at h | rw [if_neg h1'] at h)
    rw [decide_eq_false h1]
    simp only [Bool.not_false, if_true]
    refine wpAny_bind (wpAny_rule (wpAny_bind (gt_str (wpAny_bind (wpAny_pure (wpAny_pure (wpAny_pure (wpAny_pure ⟨_, rfl, (fun e => nomatch e), h⟩))))))))
end
end Mine

namespace Mine

/-! the text's defs, by their places -/
def stmtAt (i : Nat) : Stmt := (Challenge.pw_mq0200_01.main.body).getD i (.Pass ⟨0, 0, 0, 0⟩)
def bodyOf : Stmt → List Stmt
  | .FunctionDef _ _ b .. => b
  | .ClassDef _ _ _ b .. => b
  | _ => []
def argsOf : Stmt → Arguments
  | .FunctionDef _ a .. => a
  | _ => { posonlyargs := [], args := [], vararg := none, kwonlyargs := [], kw_defaults := [], kwarg := none, defaults := [] }
def scopeOf : Stmt → Scope
  | .FunctionDef _ _ _ _ _ _ sc .. => sc
  | _ => { kind := .function, names := [], isGenerator := false, isCoroutine := false, more := [] }
def sldS : Stmt := stmtAt 2
def cmpS : Stmt := stmtAt 3
def subS : Stmt := (bodyOf (stmtAt 5)).getD 4 (.Pass ⟨0, 0, 0, 0⟩)
def rowS : Stmt := stmtAt 7
def lawS : Stmt := stmtAt 8

/-- at f stands the def S, its code at cd -/
structure FnAt (B : Heap) (f : Addr) (qual : Str) (S : Stmt) (cd : Value) : Prop where
  obj : ∃ o name doc pm an ct, B.get? f = some o ∧ o.data = .func (fnOf name qual (argsOf S) (bodyOf S) (scopeOf S) .none .none doc pm an cd ct)
  code : B.CodeRec cd qual

section
variable {prog : Program} {w : World} {A : Around} {E : Value → Shared → Prop} {s : Shared} {Q : Value → Shared → Prop} {B : Heap}

theorem call_fn {f : Addr} {qual : Str} {S : Stmt} {cd : Value} {args : List Value} {binds : List (Str × Value)} (X : FnAt B f qual S cd) (hS : B.StaysIn s.heap) (hlim : B.NoLimit) (hroom : A.depth < recursionLimit)
    (hbind : ∀ name doc pm an ct, bindArgs (fnOf name qual (argsOf S) (bodyOf S) (scopeOf S) .none .none doc pm an cd ct) ⟨args, []⟩ = pure binds)
    (hcell : ∀ x ∈ (scopeOf S).names, x.2 ≠ .cell) (hloc : ∀ x ∈ binds, (scopeOf S).names.lookup x.1 = some .local)
    (hco : (scopeOf S).isCoroutine = false) (hgen : (scopeOf S).isGenerator = false) (hk : (scopeOf S).kind = .function)
    (h : ∀ s₁ L, s.heap.get? L = none → Go B [] s s₁ → s₁.heap.Ns L (fun y => binds.reverse.lookup y) → B.get? L = none →
      wpAny (model prog w) (A.deeper (envOf qual (scopeOf S) L f cd)) (execs (bodyOf S) (envOf qual (scopeOf S) L f cd)) (fun fl s' => Q (match fl with | .ret v => v | _ => .none) s') (fun _ _ => False) s₁) :
    wpAny (model prog w) A (call (.ref f) args) Q E s := by
  obtain ⟨⟨o, name, doc, pm, an, ct, ho, hd⟩, hcd⟩ := X
  refine wpAny_call (codeAny_call_def (body := bodyOf S) (binds := binds) hroom (hS _ _ ho) hd (hlim.keeps hS) (hcd.keeps hS) rfl (.of_eq (hbind name doc pm an ct)) hcell hloc (fun h₁ hns hk₁ => ?_) hco hgen hk)
  have hn : s.heap.get? s.heap.objs.size = none := Heap.get?_none_of_le (Nat.le_refl _)
  exact wpAny_mono (h _ _ hn (Go.keep hk₁) hns (none_of_stays hS hn)) (fun _ _ x => x) fun _ _ x => x.elim

theorem ldN {qual : Str} {sc : Scope} {L f : Addr} {cd : Value} {x : Str} {pos : Pos} {v : Value} {m : Str → Option Value} (hn : s.heap.Ns L m) (hv : m x = some v) (h : Q v s)
    (hk : sc.kind = .function) (hl : (envOf qual sc L f cd).kindOf x = some .local) (hd : (x == ("__debug__" : Str)) = false := by decide) :
    wpAny (model prog w) A (eval (.Name x pos) (envOf qual sc L f cd)) Q E s := wpAny_Name (wpAny_loadName_local hk hl hn hv h) hd
end

/-! three_way_cmp -/
def cmpI (p q : Pr) : Int := (if plt q p then 1 else 0) - (if plt p q then 1 else 0)

section
variable {prog : Program} {w : World} {A : Around} {E : Value → Shared → Prop} {s : Shared} {Q : Value → Shared → Prop} {B : Heap}
theorem three_way {f : Addr} {cd x y : Value} {p q : Pr} (X : FnAt B f (Str.ofString "three_way_cmp") cmpS cd) (hS : B.StaysIn s.heap) (hlim : B.NoLimit) (hroom : A.depth < recursionLimit) (hu : A.units + 80 < cLine)
    (hx : TupAt s.heap x p) (hy : TupAt s.heap y q) (h : ∀ s' t, Go B [] s s' → Q (.int (cmpI p q) t) s') :
    wpAny (model prog w) A (call (.ref f) [x, y]) Q E s := by
  refine call_fn X hS hlim hroom (binds := [(Str.ofString "x", x), (Str.ofString "y", y)]) (fun _ _ _ _ _ => by with_unfolding_all rfl) (by decide) (by
    intro z hz
    rcases List.mem_cons.mp hz with rfl | hz
    · with_unfolding_all rfl
    · rw [List.mem_singleton.mp hz]; with_unfolding_all rfl) (by with_unfolding_all rfl) (by with_unfolding_all rfl) (by with_unfolding_all rfl) fun s₁ L hL g hns hBL => ?_
  have hx1 := hx.go g .nil
  have hy1 := hy.go g .nil
  have hu' : (A.deeper (envOf (Str.ofString "three_way_cmp") (scopeOf cmpS) L f cd)).units + 64 < cLine := by simp only [Around.deeper_units]; omega
  have hk : (scopeOf cmpS).kind = .function := by with_unfolding_all rfl
  refine wpAny_execs_cons (wpAny_Return_some (wpAny_BinOp ?_))
  refine wpAny_Compare1 (ldN hns (v := x) (by with_unfolding_all rfl) (ldN hns (v := y) (by with_unfolding_all rfl) (gt_pair hx1 hy1 hu' ?_) hk (by with_unfolding_all rfl)) hk (by with_unfolding_all rfl))
  refine wpAny_Compare1 (ldN hns (v := x) (by with_unfolding_all rfl) (ldN hns (v := y) (by with_unfolding_all rfl) (lt_pair hx1 hy1 hu' ?_) hk (by with_unfolding_all rfl)) hk (by with_unfolding_all rfl))
  refine sub_bool ?_
  have e : b2i (plt q p) - b2i (plt p q) = cmpI p q := by unfold cmpI; cases plt q p <;> cases plt p q <;> rfl
  rw [e]
  exact h _ _ (g.trans Go.toks)
end
end Mine

namespace Mine

theorem Go.drop {B : Heap} {X Y : List Addr} {s s₁ s₂ : Shared} (g : Go B Y s s₁) (g2 : Go B X s₁ s₂) (hX : ∀ x ∈ X, x ∈ Y ∨ s.heap.get? x = none) : Go B Y s s₂ := by
  refine ⟨by rw [g2.same, g.same], fun b o hb e => ?_, fun h => g2.base (g.base h)⟩
  obtain ⟨o1, e1, u1⟩ := g.ext b o hb e
  obtain ⟨o2, e2, u2⟩ := g2.ext b _ (fun q => by
    rcases hX b q with h | h
    · exact hb h
    · rw [h] at e; cases e) e1
  exact ⟨o2, e2, u1.trans u2⟩
theorem Go.drop1 {B : Heap} {L : Addr} {s s₁ s₂ : Shared} {Y : List Addr} (g : Go B Y s s₁) (g2 : Go B [L] s₁ s₂) (hL : s.heap.get? L = none) : Go B Y s s₂ :=
  g.drop g2 fun x hx => .inr (by rw [List.mem_singleton.mp hx]; exact hL)

section
variable {prog : Program} {w : World} {A : Around} {E : Value → Shared → Prop} {s : Shared} {B : Heap} {qual : Str} {sc : Scope} {L f : Addr} {cd : Value} {m : Str → Option Value}
theorem stN {x : Str} {v : Value} {Q : Unit → Shared → Prop} (hn : s.heap.Ns L m) (hB : B.get? L = none)
    (h : ∀ s', Go B [L] s s' → s'.heap.Ns L (fun y => if y = x then some v else m y) → Q () s')
    (hk : sc.kind = .function) (hl : (envOf qual sc L f cd).kindOf x = some .local) :
    wpAny (model prog w) A (storeName (envOf qual sc L f cd) x v) Q E s :=
  wpAny_storeName_local hl hn (fun h' hn' hs => h _ (Go.but (fun b o hb e => (hs.2 b hb).trans e) hB) hn')
    (by show (sc.kind == .class || (sc.kind == .module && L != mainGlobals)) = false; rw [hk]; rfl)
theorem ldNn {x : Str} {v : Value} {Q : Value → Shared → Prop} (hn : s.heap.Ns L m) (hv : m x = some v) (h : Q v s)
    (hk : sc.kind = .function) (hl : (envOf qual sc L f cd).kindOf x = some .local) :
    wpAny (model prog w) A (loadName (envOf qual sc L f cd) x) Q E s := wpAny_loadName_local hk hl hn hv h
end

/-! items and cuts -/
theorem letGo_str (value : PySem.Expr) (x : Str) (t : Tok) (r : Value) : letTemporaryGo value (.str x t) r = pure () := by cases value <;> rfl

section
variable {prog : Program} {w : World} {A : Around} {E : Value → Shared → Prop} {s : Shared} {B : Heap} {env : Env} {Q : Value → Shared → Prop}
/-- t[0] of a pair -/
theorem ev_fst {value : PySem.Expr} {k : Nat} {p1 p2 : Pos}
    (h : wpAny (model prog w) A (eval value env) (fun o s₁ => ∃ p, TupAt s₁.heap o p ∧ ∀ t tk, Q (.str p.1 t) { s₁ with toks := tk }) E s) :
    wpAny (model prog w) A (eval (.Subscript value (.Constant (.int 0) k p1) p2) env) Q E s := by
  refine Subscript_ (wpAny_mono h (fun o s₁ h₁ => wpAny_Constant_int ?_) fun _ _ e => e)
  obtain ⟨p, ⟨a, ob, n, t, u, rfl, e, hc, hd⟩, hq⟩ := h₁
  exact item_tupleT (l := [.str p.1 t, .str p.2 u]) (j := 0) ⟨ob, e, hc, n, hd⟩ (by decide) (by decide) rfl rfl (hq t _) rfl
theorem ev_snd {value : PySem.Expr} {k : Nat} {p1 p2 : Pos}
    (h : wpAny (model prog w) A (eval value env) (fun o s₁ => ∃ p, TupAt s₁.heap o p ∧ ∀ t tk, Q (.str p.2 t) { s₁ with toks := tk }) E s) :
    wpAny (model prog w) A (eval (.Subscript value (.Constant (.int 1) k p1) p2) env) Q E s := by
  refine Subscript_ (wpAny_mono h (fun o s₁ h₁ => wpAny_Constant_int ?_) fun _ _ e => e)
  obtain ⟨p, ⟨a, ob, n, t, u, rfl, e, hc, hd⟩, hq⟩ := h₁
  exact item_tupleT (l := [.str p.1 t, .str p.2 u]) (j := 1) ⟨ob, e, hc, n, hd⟩ (by decide) (by decide) rfl rfl (hq u _) rfl

theorem keptGo {X : List Addr} {s₀ : Shared} : KeptByPush (Go B X s₀) := fun _ ob _ g => g.trans (Go.push ob)
/-- x[-1:] -/
theorem ev_last {value : PySem.Expr} {k : Nat} {p1 p2 p3 p4 : Pos}
    (h : wpAny (model prog w) A (eval value env) (fun o s₁ => ∃ x t, o = .str x t ∧ x.length ≤ sizeLine ∧ ∀ s' t', Go B [] s₁ s' → Q (.str (Txt.slice x (some (-1)) none) t') s') E s) :
    wpAny (model prog w) A (eval (.Subscript value (.Slice (some (.UnaryOp .USub (.Constant (.int 1) k p1) p2)) none none p3) p4) env) Q E s := by
  refine Subscript_ (wpAny_mono h (fun o s₁ h₁ => ?_) fun _ _ e => e)
  obtain ⟨x, t, rfl, hz, hq⟩ := h₁
  refine wpAny_Slice (wpAny_evalPart_some (wpAny_UnaryOp (wpAny_Constant_int (neg_int ?_))))
  refine wpAny_evalPart_none (wpAny_evalPart_none ?_)
  exact tail_of_ItemOn (SBG.sliceItem_sn (Fm := Go B [] s₁) keptGo Go.toks (fun s' t' g => hq s' t' g) hz) (by with_unfolding_all rfl) (letGo_str value x t)
/-- x[:-1] -/
theorem ev_init {value : PySem.Expr} {k : Nat} {p1 p2 p3 p4 : Pos}
    (h : wpAny (model prog w) A (eval value env) (fun o s₁ => ∃ x t, o = .str x t ∧ x.length ≤ sizeLine ∧ ∀ s' t', Go B [] s₁ s' → Q (.str (Txt.slice x none (some (-1))) t') s') E s) :
    wpAny (model prog w) A (eval (.Subscript value (.Slice none (some (.UnaryOp .USub (.Constant (.int 1) k p1) p2)) none p3) p4) env) Q E s := by
  refine Subscript_ (wpAny_mono h (fun o s₁ h₁ => ?_) fun _ _ e => e)
  obtain ⟨x, t, rfl, hz, hq⟩ := h₁
  refine wpAny_Slice (wpAny_evalPart_none (wpAny_evalPart_some (wpAny_UnaryOp (wpAny_Constant_int (neg_int ?_)))))
  refine wpAny_evalPart_none ?_
  exact tail_of_ItemOn (SBG.sliceItem_ns (Fm := Go B [] s₁) keptGo Go.toks (fun s' t' g => hq s' t' g) hz) (by with_unfolding_all rfl) (letGo_str value x t)
end

/-! is_suburi -/
def slashS : Str := Str.ofString "/"
def preS (x : Str) : Str := if Txt.slice x (some (-1)) none = slashS then x else x ++ slashS
def isSub (p q : Pr) : Bool := decide (p = q) || (decide (p.1 = q.1) && Txt.startswith q.2 (preS p.2))

section
variable {prog : Program} {w : World} {A : Around} {E : Value → Shared → Prop} {s : Shared} {Q : Value → Shared → Prop} {B : Heap}
theorem suburi {f : Addr} {cd self x y : Value} {p q : Pr} (X : FnAt B f (Str.ofString "HTTPPasswordMgr.is_suburi") subS cd) (hS : B.StaysIn s.heap) (hlim : B.NoLimit) (hroom : A.depth < recursionLimit) (hu : A.units + 80 < cLine)
    (hx : TupAt s.heap x p) (hy : TupAt s.heap y q) (hp : Okp p) (hq : Okp q) (hz : p.2.length ≤ 1000) (h : ∀ s', Go B [] s s' → Q (.bool (isSub p q)) s') :
    wpAny (model prog w) A (call (.ref f) [self, x, y]) Q E s := by
  refine call_fn X hS hlim hroom (binds := [(Str.ofString "self", self), (Str.ofString "base", x), (Str.ofString "test", y)]) (fun _ _ _ _ _ => by with_unfolding_all rfl) (by decide) (by
    intro z hz
    rcases List.mem_cons.mp hz with rfl | hz
    · with_unfolding_all rfl
    rcases List.mem_cons.mp hz with rfl | hz
    · with_unfolding_all rfl
    · rw [List.mem_singleton.mp hz]; with_unfolding_all rfl) (by with_unfolding_all rfl) (by with_unfolding_all rfl) (by with_unfolding_all rfl) fun s₁ L hL g hns hBL => ?_
  have hx1 := hx.go g .nil
  have hy1 := hy.go g .nil
  have hu' : (A.deeper (envOf (Str.ofString "HTTPPasswordMgr.is_suburi") (scopeOf subS) L f cd)).units + 64 < cLine := by simp only [Around.deeper_units]; omega
  have hk : (scopeOf subS).kind = .function := by with_unfolding_all rfl
  have hsl : sizeLine = 16777216 := sizeLine_eq
  have ldB : ∀ {Q : Value → Shared → Prop} {E : Value → Shared → Prop} {s' : Shared} {pos : Pos}, Go B [] s₁ s' → Q x s' → wpAny (model prog w) (A.deeper (envOf (Str.ofString "HTTPPasswordMgr.is_suburi") (scopeOf subS) L f cd)) (eval (.Name (Str.ofString "base") pos) (envOf (Str.ofString "HTTPPasswordMgr.is_suburi") (scopeOf subS) L f cd)) Q E s' :=
    fun g h => ldN (g.ns (by simp) hns) (by with_unfolding_all rfl) h hk (by with_unfolding_all rfl)
  have ldT : ∀ {Q : Value → Shared → Prop} {E : Value → Shared → Prop} {s' : Shared} {pos : Pos}, Go B [] s₁ s' → Q y s' → wpAny (model prog w) (A.deeper (envOf (Str.ofString "HTTPPasswordMgr.is_suburi") (scopeOf subS) L f cd)) (eval (.Name (Str.ofString "test") pos) (envOf (Str.ofString "HTTPPasswordMgr.is_suburi") (scopeOf subS) L f cd)) Q E s' :=
    fun g h => ldN (g.ns (by simp) hns) (by with_unfolding_all rfl) h hk (by with_unfolding_all rfl)
  -- if base == test: return True
  refine wpAny_execs_cons (wpAny_If (wpAny_isTrue_Compare1 (ldB (.refl ..) (ldT (.refl ..) (eq_pair hx1 hy1 hp hq hu' (wpAny_truthy_bool ?_))))))
  by_cases h0 : p = q
  · rw [if_pos (by simpa using h0)]
    refine wpAny_execs_cons (wpAny_Return_some (wpAny_Constant_bool ?_))
    have e : isSub p q = true := by simp [isSub, h0]
    rw [e] at h
    exact h _ g
  rw [if_neg (by simpa using h0)]
  refine wpAny_execs_nil ?_
  -- if base[0] != test[0]: return False
  refine wpAny_execs_cons (wpAny_If (wpAny_isTrue_Compare1 (ev_fst (ldB (.refl ..) ⟨p, hx1, fun t tk => ?_⟩))))
  refine ev_fst (ldT Go.toks ⟨q, hy1, fun t' tk' => ?_⟩)
  refine ne_str (wpAny_truthy_bool ?_)
  by_cases h1 : p.1 = q.1
  case neg =>
    rw [if_pos (by simpa using h1)]
    refine wpAny_execs_cons (wpAny_Return_some (wpAny_Constant_bool ?_))
    have e : isSub p q = false := by simp [isSub, h0, h1]
    rw [e] at h
    exact h _ (g.trans Go.toks)
  rw [if_neg (by simpa using h1)]
  refine wpAny_execs_nil ?_
  -- prefix = base[1]
  refine wpAny_execs_cons (wpAny_Assign_Name (ev_snd (ldB Go.toks ⟨p, hx1, fun t3 tk3 => ?_⟩)))
  refine stN (B := B) hns hBL (fun s₂ g₂ hns2 => ?_) hk (by with_unfolding_all rfl)
  have gA : Go B [] s s₂ := (g.trans Go.toks).drop1 g₂ hL
  have hy2 := hy.go gA .nil
  -- if prefix[-1:] != '/'
  refine wpAny_execs_cons (wpAny_If (wpAny_isTrue_Compare1 (ev_last (B := B) (ldN hns2 (v := .str p.2 t3) (by with_unfolding_all rfl) ⟨p.2, t3, rfl, by omega, fun s₃ t4 g₃ => ?_⟩ hk (by with_unfolding_all rfl)))))
  refine wpAny_Constant_str ?_
  refine ne_str (wpAny_truthy_bool ?_)
  have fin : ∀ (s₄ : Shared) (m4 : Str → Option Value) (t4 : Tok), Go B [] s s₄ → s₄.heap.Ns L m4 → m4 (Str.ofString "prefix") = some (.str (preS p.2) t4) → m4 (Str.ofString "test") = some y →
      wpAny (model prog w) (A.deeper (envOf (Str.ofString "HTTPPasswordMgr.is_suburi") (scopeOf subS) L f cd)) (execs ((bodyOf subS).drop 4) (envOf (Str.ofString "HTTPPasswordMgr.is_suburi") (scopeOf subS) L f cd))
        (fun fl s' => Q (match fl with | .ret v => v | _ => .none) s') (fun _ _ => False) s₄ := by
    intro s₄ m4 t4 g4 hns4 hm1 hm2
    refine wpAny_execs_cons (wpAny_Return_some (MethodCall_ (pl := pure false) (ev_snd (ldN hns4 hm2 ⟨q, hy.go g4 .nil, fun t5 tk5 => ?_⟩ hk (by with_unfolding_all rfl))) (by with_unfolding_all rfl)))
    refine GM.startswith ?_
    refine callWith_method1 (spliced_more (ldN hns4 hm1 ?_ hk (by with_unfolding_all rfl)) (by with_unfolding_all rfl)) (by with_unfolding_all rfl) (by with_unfolding_all rfl)
    refine spliced_none ?_
    refine SC.startswith ?_
    have e : isSub p q = Txt.startswith q.2 (preS p.2) := by simp [isSub, h0, h1]
    rw [← e]
    exact h _ (g4.trans Go.toks)
  by_cases h2 : Txt.slice p.2 (some (-1)) none = slashS
  · rw [if_neg (by simpa [slashS] using h2)]
    refine wpAny_execs_nil ?_
    refine fin _ _ t3 (gA.trans (g₃.trans Go.toks)) ((g₃.trans Go.toks).ns (by simp) hns2) ?_ (by with_unfolding_all rfl)
    rw [preS, if_pos h2]; with_unfolding_all rfl
  · rw [if_pos (by simpa [slashS] using h2)]
    refine wpAny_execs_cons (wpAny_AugAssign_Name (ldNn ((g₃.trans Go.toks).ns (by simp) hns2) (v := .str p.2 t3) (by with_unfolding_all rfl) (wpAny_Constant_str ?_) hk (by with_unfolding_all rfl)))
    refine iadd_str (fun t6 tk6 => ?_) (by
      have : (Str.ofString "/").length = 1 := by decide
      omega)
    refine stN (B := B) (m := _) ((g₃.trans Go.toks).ns (by simp) hns2) hBL (fun s₅ g₅ hns5 => ?_) hk (by with_unfolding_all rfl)
    refine wpAny_execs_nil ?_
    refine fin _ _ t6 ((gA.trans (g₃.trans Go.toks)).drop1 g₅ hL) hns5 ?_ (by with_unfolding_all rfl)
    rw [preS, if_neg h2]; with_unfolding_all rfl
end
end Mine

namespace Mine

/-! frames: each a dict above the base -/
def FrOK (B h : Heap) (l : List Env) : Prop := ∀ env ∈ l, env.scope.kind ≠ .module ∧ ∃ L o es ep, env.frame = some L ∧ B.get? L = none ∧ h.get? L = some o ∧ o.data = .dict es ep
theorem FrOK.fun {B h : Heap} : ∀ {l : List Env}, FrOK B h l → h.FunFrames B l
  | [], _ => trivial
  | env :: l, x => by
    obtain ⟨hk, L, o, es, ep, hf, hB, ho, hd⟩ := x env (.head _)
    exact ⟨hk, ⟨L, o, hf, hB, ho, fun vs q => by rw [hd] at q; cases q⟩, FrOK.fun fun e he => x e (.tail _ he)⟩
theorem FrOK.go {B : Heap} {X : List Addr} {s s' : Shared} {l : List Env} (x : FrOK B s.heap l) (g : Go B X s s') (hX : ∀ a ∈ X, ∀ o, s.heap.get? a = some o → ∀ es ep, o.data ≠ .dict es ep) : FrOK B s'.heap l := by
  intro env he
  obtain ⟨hk, L, o, es, ep, hf, hB, ho, hd⟩ := x env he
  obtain ⟨o', e', u⟩ := g.ext L o (fun q => hX L q o ho es ep hd) ho
  exact ⟨hk, L, o', es, ep, hf, hB, e', u.data.trans hd⟩
theorem FrOK.cons {B h : Heap} {env : Env} {l : List Env} {L : Addr} {m : Str → Option Value} (hk : env.scope.kind ≠ .module) (hf : env.frame = some L) (hB : B.get? L = none) (hn : h.Ns L m) (x : FrOK B h l) : FrOK B h (env :: l) := by
  intro e he
  rcases List.mem_cons.mp he with rfl | he
  · obtain ⟨o, es, ep, ho, hd, _⟩ := hn
    exact ⟨hk, L, o, es, ep, hf, hB, ho, hd⟩
  · exact x e he

theorem FrOK.isDict {B h : Heap} {l : List Env} (x : FrOK B h l) {b : Addr} (hb : b ∈ l.filterMap (·.frame)) : B.get? b = none ∧ ∃ o es ep, h.get? b = some o ∧ o.data = .dict es ep := by
  obtain ⟨env, he, hf⟩ := List.mem_filterMap.mp hb
  obtain ⟨_, L, o, es, ep, hf', hB, ho, hd⟩ := x env he
  rw [hf] at hf'; cases hf'
  exact ⟨hB, o, es, ep, ho, hd⟩

section
variable {M : Model} {A : Around} {E : Value → Shared → Prop} {s : Shared} {B : Heap} {env : Env} {outer : List Env} {L e : Addr}

theorem frameOf_go {Q : Value → Shared → Prop} (hfr : A.frames = some (env :: outer)) (hF : FrOK B s.heap (env :: outer)) (hf : env.frame = some L)
    (h : ∀ s', Go B [] s s' → s'.heap.objs.size = s.heap.objs.size → Q (.ref L) s') : wpAny M A (frameOf env) Q E s := by
  refine wpAny_frameOf_fun hfr hF.fun hf fun h' hs => h _ ⟨rfl, fun b o _ eo => ?_, fun hS b o eo => ?_⟩ hs.1
  · obtain ⟨sl, e1⟩ := hs.2.2 b o eo
    by_cases hb : b ∈ (env :: outer).filterMap (·.frame)
    · obtain ⟨_, o', es, ep, e2, hd⟩ := hF.isDict hb
      rw [eo] at e2; cases e2
      exact ⟨_, e1, .inr ⟨⟨es, ep, hd⟩, sl, rfl⟩⟩
    · exact ⟨o, (hs.2.1 b hb).trans eo, .refl o⟩
  · have hb : b ∉ (env :: outer).filterMap (·.frame) := fun q => by
      rw [(hF.isDict q).1] at eo; cases eo
    exact (hs.2.1 b hb).trans (hS b o eo)

/-- an IndexError; its context; its traceback and the mark of its flight -/
def ExcAt (h : Heap) (e : Addr) (ctx : Value) (tb : Option (Addr × Value)) : Prop :=
  ∃ ob vs, h.get? e = some ob ∧ ob.cls = .type "IndexError" ∧ ob.data = .fields vs ∧ vs.size = 6 ∧ vs[2]? = some ctx ∧
    match tb with
    | none => vs[1]? = some .none
    | some (T, fl) => vs[1]? = some (.ref T) ∧ T ≠ e ∧ ∃ oT ts, h.get? T = some oT ∧ oT.data = .fields ts ∧ 3 < ts.size ∧ ts[3]? = some fl

theorem isFields {h : Heap} {e : Addr} {ctx : Value} {tb : Option (Addr × Value)} (x : ExcAt h e ctx tb) : ∃ ob vs, h.get? e = some ob ∧ ob.data = .fields vs :=
  let ⟨ob, vs, ho, _, hd, _⟩ := x; ⟨ob, vs, ho, hd⟩

theorem ExcAt.go {s' : Shared} {X : List Addr} {ctx : Value} {tb : Option (Addr × Value)} (x : ExcAt s.heap e ctx tb) (g : Go B X s s') (he : e ∉ X) (hT : ∀ T fl, tb = some (T, fl) → T ∉ X) : ExcAt s'.heap e ctx tb := by
  obtain ⟨ob, vs, ho, hc, hd, hz, h2, r⟩ := x
  refine ⟨ob, vs, g.exact he ho (fun es ep q => by rw [hd] at q; cases q), hc, hd, hz, h2, ?_⟩
  cases tb with
  | none => exact r
  | some p =>
    obtain ⟨T, fl⟩ := p
    obtain ⟨r1, r2, oT, ts, r3, r4, r5, r6⟩ := r
    exact ⟨r1, r2, oT, ts, g.exact (hT T fl rfl) r3 (fun es ep q => by rw [r4] at q; cases q), r4, r5, r6⟩

theorem note1 {ctx : Value} {Q : Unit → Shared → Prop} (hfr : A.frames = some (env :: outer)) (hF : FrOK B s.heap (env :: outer)) (hf : env.frame = some L) (hx : ExcAt s.heap e ctx none) (hBe : B.get? e = none)
    (h : ∀ s' T, Go B [e] s s' → s.heap.get? T = none → ExcAt s'.heap e ctx (some (T, rawInt L)) → Q () s') : wpAny M A (noteFrame (.ref e) env) Q E s := by
  obtain ⟨ob, vs, ho, hc, hd, hz, h2, h1⟩ := hx
  unfold noteFrame
  simp only [hf]
  refine wpAny_bind (wpAny_field ho hd h1 ?_)
  rw [if_neg (by decide)]
  refine wpAny_bind (frameOf_go hfr hF hf fun s₁ g₁ hsz => ?_)
  refine wpAny_bind (wpAny_entryPlaceOf fun pl hpl => ?_)
  unfold EntryCells.newEntry newFields
  refine wpAny_bind (wpAny_newObj_type ?_ (hpl.sizeOk5 _ _ _ _ _))
  have ho1 := g₁.exact (List.not_mem_nil) ho (fun es ep q => by rw [hd] at q; cases q)
  have hne : s₁.heap.objs.size ≠ e := Nat.ne_of_gt (Heap.lt_size ho1)
  generalize hts : ([Value.none, .ref L, .none, rawInt L, .none] ++ (if pl.isEmpty then List.replicate 6 Value.none else pl)).toArray = ts
  have hts3 : 3 < ts.size ∧ ts[3]? = some (rawInt L) := by
    subst hts
    constructor
    · simp only [List.size_toArray, List.length_append, List.length_cons, List.length_nil]; omega
    · simp
  have ho2 := Heap.get?_push_of_some (h := s₁.heap) { cls := .type "traceback", dict := none, data := .fields ts } ho1
  refine wpAny_setField ho2 hd (by omega) ?_
  have hd3 := Obj.data_mapFields hd (·.setIfInBounds 1 (Value.ref s₁.heap.objs.size))
  refine h _ s₁.heap.objs.size ?_ ?_ ⟨_, _, Heap.get?_update_self _ ho2 (Obj.isFreed_of_fields hd3), (Obj.cls_mapFields _ _).trans hc, hd3, by simp [hz], (Array.getElem?_setIfInBounds_ne (by decide)).trans h2, by simp [hz], hne, { cls := .type "traceback", dict := none, data := .fields ts }, ts, ?_, rfl, hts3⟩
  · refine ⟨by rw [g₁.same], fun b o hb eo => ?_, fun hS b o eo => ?_⟩
    · obtain ⟨o1, e1, u1⟩ := g₁.ext b o (List.not_mem_nil) eo
      refine ⟨o1, ?_, u1⟩
      show ((s₁.heap.push _).update e _).get? b = some o1
      rw [Heap.get?_update_other _ _ (fun q : e = b => hb (by rw [q]; exact .head _))]
      exact Heap.get?_push_of_some _ e1
    · show ((s₁.heap.push _).update e _).get? b = some o
      rw [Heap.get?_update_other _ _ (fun q : e = b => by rw [← q, hBe] at eo; cases eo)]
      exact Heap.get?_push_of_some _ (g₁.base hS b o eo)
  · exact Heap.get?_none_of_le (by rw [hsz]; exact Nat.le_refl _)
  · show ((s₁.heap.push _).update e _).get? s₁.heap.objs.size = _
    rw [Heap.get?_update_other _ _ (Ne.symm hne)]
    exact Heap.get?_push_size _ rfl

theorem note2 {ctx : Value} {T : Addr} {Q : Unit → Shared → Prop} (hf : env.frame = some L) (hx : ExcAt s.heap e ctx (some (T, rawInt L))) (h : Q () s) : wpAny M A (noteFrame (.ref e) env) Q E s := by
  obtain ⟨ob, vs, ho, hc, hd, hz, h2, h1, hne, oT, ts, hoT, hdT, _, h3⟩ := hx
  exact wpAny_noteFrame_inFlight hf ho hd h1 hoT hdT h3 h

theorem flight {ctx fl : Value} {T : Addr} {fr : Option Addr} {Q : Unit → Shared → Prop} (hx : ExcAt s.heap e ctx (some (T, fl))) (hBT : B.get? T = none)
    (h : ∀ s', Go B [T] s s' → ExcAt s'.heap e ctx (some (T, fr.elim .none fun f => rawInt f)) → Q () s') : wpAny M A (setFlight (.ref e) fr) Q E s := by
  obtain ⟨ob, vs, ho, hc, hd, hz, h2, h1, hne, oT, ts, hoT, hdT, h3z, h3⟩ := hx
  unfold setFlight
  refine wpAny_bind (wpAny_field ho hd h1 ?_)
  rw [if_pos (show (Value.ref T != Value.none) = true from by simp)]
  refine wpAny_setField hoT hdT h3z ?_
  have hd3 := Obj.data_mapFields hdT (·.setIfInBounds 3 (fr.elim Value.none fun f => rawInt f))
  refine h _ (Go.but (s := s) (tk := s.toks) (fun b o hb eo => (Heap.get?_update_other _ _ (Ne.symm hb)).trans eo) hBT) ⟨ob, vs, ?_, hc, hd, hz, h2, h1, hne, _, _, Heap.get?_update_self _ hoT (Obj.isFreed_of_fields hd3), hd3, by simpa using h3z, by simp [h3z]⟩
  exact (Heap.get?_update_other _ _ hne).trans ho

theorem came {ctx fl : Value} {T : Addr} (hf : env.frame = some L) (hx : ExcAt s.heap e ctx (some (T, fl))) (hBT : B.get? T = none)
    (h : ∀ s', Go B [T] s s' → ExcAt s'.heap e ctx (some (T, rawInt L)) → E (.ref e) s') : cameBackBy M A env E (.ref e) s := by
  obtain ⟨ob, vs, ho, hc, hd, hz, h2, h1, r⟩ := id hx
  unfold cameBackBy
  refine wpAny_bind (wpAny_field ho hd h1 ?_)
  rw [if_neg (show ¬ ((Value.ref T == Value.none) = true) from by simp)]
  rw [hf]
  first
    | exact flight hx hBT h
    | exact wpAny_bind (wpAny_pure (flight hx hBT h))

theorem pass {α : Type} {ctx fl : Value} {T : Addr} {Q : α → Shared → Prop} {what : String} (hf : env.frame = some L) (hx : ExcAt s.heap e ctx (some (T, fl))) (hBT : B.get? T = none)
    (h : ∀ s', Go B [T] s s' → ExcAt s'.heap e ctx (some (T, rawInt L)) → E (.ref e) s') : wpAny M A (PySem.passOn what (.ref e) env : Sem α) Q E s := by
  obtain ⟨ob, vs, ho, hc, hd, hz, h2, h1, r⟩ := id hx
  unfold PySem.passOn
  refine wpAny_bind (wpAny_field ho hd h1 ?_)
  rw [if_neg (show ¬ ((Value.ref T == Value.none) = true) from by simp)]
  rw [hf]
  first
    | exact wpAny_bind (flight hx hBT fun s' g x => wpAny_throw (h s' g x))
    | exact wpAny_bind (wpAny_pure (wpAny_bind (flight hx hBT fun s' g x => wpAny_throw (h s' g x))))
end
end Mine

namespace Mine

theorem entry_unchain : entryFor table "proto.unchain" = some Builtin.«proto.unchain» := entryFor_of_fast (by kernel_rfl)
theorem plain_unchain : plainId "proto.unchain" = true := by decide +kernel

/-- what is being handled: nothing, or an IndexError without context -/
def HandOK (A : Around) (h : Heap) : Prop := A.handled = none ∨ ∃ e tb, A.handled = some (.ref e) ∧ ExcAt h e .none tb

section
variable {prog : Program} {w : World} {A : Around} {E : Value → Shared → Prop} {s : Shared} {B : Heap}

theorem raiseNew_go {α : Type} {e : Addr} {Q : α → Shared → Prop} (hA : A.handled = none ∨ ∃ e1 tb, A.handled = some (.ref e1) ∧ e1 ≠ e ∧ ExcAt s.heap e1 .none tb) (hx : ExcAt s.heap e .none none) (hB : B.get? e = none)
    (h : ∀ s', Go B [e] s s' → (∃ ctx, ExcAt s'.heap e ctx none ∧ (A.handled = none → ctx = .none)) → E (.ref e) s') : wpAny (model prog w) A (raiseNew (.ref e) : Sem α) Q E s := by
  unfold raiseNew
  refine wpAny_bind (wpAny_handled ?_)
  rcases hA with hh | ⟨e1, tb, hh, hne, hx1⟩
  · rw [hh]
    exact wpAny_bind (wpAny_pure (wpAny_throw (h _ (.refl ..) ⟨_, hx, fun _ => rfl⟩)))
  · rw [hh]
    show wpAny _ _ (if (Value.ref e1 != Value.ref e) = true then _ else _) _ _ _
    rw [if_pos (by simpa using hne)]
    obtain ⟨ob1, vs1, ho1, hc1, hd1, hz1, h21, r1⟩ := hx1
    refine wpAny_bind (wpAny_holding (wpAny_runValue (codeAny_builtin entry_unchain ?_)))
    show wpAny _ _ (field (.ref e1) 2 >>= _) _ _ _
    refine wpAny_bind (wpAny_field ho1 hd1 h21 ?_)
    refine wpAny_pure ?_
    obtain ⟨ob, vs, ho, hc, hd, hz, h2, h1⟩ := hx
    refine wpAny_bind ?_
    show wpAny _ _ (setField (.ref e) 2 (.ref e1)) _ _ _
    refine wpAny_setField ho hd (by omega) (wpAny_throw ?_)
    have hd3 := Obj.data_mapFields hd (·.setIfInBounds 2 (Value.ref e1))
    refine h _ (Go.but (s := s) (tk := s.toks) (fun b o hb eo => (Heap.get?_update_other _ _ (Ne.symm hb)).trans eo) hB) ⟨.ref e1, ⟨_, _, Heap.get?_update_self _ ho (Obj.isFreed_of_fields hd3), (Obj.cls_mapFields _ _).trans hc, hd3, by simp [hz], by simp [hz], ?_⟩, fun q => by rw [hh] at q; cases q⟩
    exact (Array.getElem?_setIfInBounds_ne (by decide)).trans h1

theorem raise_go {α : Type} {msg : String} {Q : α → Shared → Prop} (hA : HandOK A s.heap) (hS : B.StaysIn s.heap)
    (h : ∀ s' e, Go B [] s s' → s.heap.get? e = none → (∃ ctx, ExcAt s'.heap e ctx none ∧ (A.handled = none → ctx = .none)) → E (.ref e) s') :
    wpAny (model prog w) A (raiseErrorWords "IndexError" msg : Sem α) Q E s := by
  unfold raiseErrorWords
  refine wpAny_bind (wpAny_mkText (wpAny_bind ?_))
  unfold newExc newTuple
  refine wpAny_bind (wpAny_newObj_type ?_)
  refine wpAny_bind (m := firstArgMember _ _) (wpAny_of_eq (a := Value.none) (by simp only [firstArgMember, plainExc_IndexError.first]; rfl) ?_)
  rw [plainExc_IndexError.own]
  refine wpAny_newObj_type ?_
  dsimp only
  have hn : s.heap.get? (s.heap.push { cls := Value.type "tuple", data := Data.seq [Value.str (Str.ofString msg) s.toks].toArray }).objs.size = none := Heap.get?_none_of_le (by simp)
  generalize ho : ({ cls := Value.type "tuple", data := Data.seq [Value.str (Str.ofString msg) s.toks].toArray } : Obj) = o1 at hn ⊢
  generalize ho2 : ({ cls := Value.type "IndexError", data := Data.fields (#[Value.ref s.heap.objs.size, Value.none, Value.none, Value.none, Value.bool false, Value.none] ++ #[]) } : Obj) = o2
  have keep : ∀ b o, s.heap.get? b = some o → ((s.heap.push o1).push o2).get? b = some o := fun b o hb => Heap.get?_push_of_some _ (Heap.get?_push_of_some _ hb)
  refine raiseNew_go (B := B) (E := E) ?_ ?_ (none_of_stays hS hn) fun s' g hx => h s' _ ?_ hn hx
  · rcases hA with hh | ⟨e1, tb, hh, hx⟩
    · exact .inl hh
    · refine .inr ⟨e1, tb, hh, fun q => ?_, ?_⟩
      · obtain ⟨ob, vs, ho, _⟩ := hx
        rw [q, hn] at ho; cases ho
      · exact hx.go (B := B) (X := []) (Go.keep keep) (by simp) (by simp)
  · subst ho2
    exact ⟨_, _, Heap.get?_push_size _ rfl, rfl, rfl, rfl, rfl, rfl⟩
  · refine (Go.keep (X := []) keep).drop1 g hn
end

theorem fits_small {j : Nat} (h : j < 1000) : Builtin.List.listFitsIndex (j : Int) = true :=
  fitsIndex_both (by omega) (by omega)

section
variable {prog : Program} {w : World} {A : Around} {E : Value → Shared → Prop} {s : Shared} {B : Heap}
theorem item_out_k {l : Addr} {items : Array Value} {k : Int} {t : Tok} {Q : Value → Shared → Prop} (hA : HandOK A s.heap) (hS : B.StaysIn s.heap) (hl : s.heap.IsList l items) (hout : (items.size : Int) ≤ k) (hfit : Builtin.List.listFitsIndex k = true)
    (hE : ∀ s' e, Go B [] s s' → s.heap.get? e = none → (∃ ctx, ExcAt s'.heap e ctx none ∧ (A.handled = none → ctx = .none)) → E (.ref e) s') :
    wpAny (model prog w) A (getItem (.ref l) (.int k t)) Q E s := by
  obtain ⟨o, ho, hc, ne, hd⟩ := id hl
  unfold getItem
  try with_reducible refine wpAny_holding ?_
  first | refine wpAny_bind (wpAny_pure ?_) | skip
  refine wpAny_bind (wpAny_sequenceKey hl.typeIs (by decide) ?_)
  refine wpAny_bind (wpAny_callSpecial?_slot (name := Str.ofString "__getitem__") hl.typeIs slot_list_getitem
    (wpAny_call_entry slot_list_getitem hl.typeIs entry_list_getitem ?_ (args_list_getitem _ _)))
  show wpAny _ _ (Builtin.List.listSubscript? (.int k t) >>= _) _ _ s
  refine wpAny_bind (wpAny_listSubscript_int hfit ?_)
  clear hfit
  cases k with
  | ofNat j =>
    have hx : items[j]? = none := Array.getElem?_eq_none (by have : (items.size : Int) ≤ (j : Int) := hout; omega)
    show wpAny _ _ ((seqItemAt l j >>= fun r => pure (r.map (j, ·))) >>= _) _ _ s
    refine wpAny_bind (wpAny_bind (wpAny_seqItemAt ho hd (wpAny_pure ?_)))
    rw [hx]
    have hA' : HandOK A.in1 s.heap := hA
    exact wpAny_bind (wpAny_rule (wpAny_bind (raise_go hA' hS hE)))
  | negSucc j => exact absurd hout (by have := Int.negSucc_lt_zero j; omega)
theorem item_out {l : Addr} {items : Array Value} {j : Nat} {t : Tok} {Q : Value → Shared → Prop} (hA : HandOK A s.heap) (hS : B.StaysIn s.heap) (hl : s.heap.IsList l items) (hout : items.size ≤ j) (hhi : j < 1000)
    (hE : ∀ s' e, Go B [] s s' → s.heap.get? e = none → (∃ ctx, ExcAt s'.heap e ctx none ∧ (A.handled = none → ctx = .none)) → E (.ref e) s') :
    wpAny (model prog w) A (getItem (.ref l) (.int (j : Int) t)) Q E s :=
  item_out_k hA hS hl (by omega) (fits_small hhi) hE
end
end Mine

namespace Mine

/-- at a there is nothing, or a record -/
def Fld (h : Heap) (a : Addr) : Prop := ∀ o, h.get? a = some o → ∃ vs, o.data = .fields vs
theorem Fld.none {h : Heap} {a : Addr} (x : h.get? a = none) : Fld h a := fun o e => by rw [x] at e; cases e
theorem Fld.exc {h : Heap} {e : Addr} {ctx : Value} {tb : Option (Addr × Value)} (x : ExcAt h e ctx tb) : Fld h e := fun o eo => by
  obtain ⟨ob, vs, ho, _, hd, _⟩ := x
  rw [ho] at eo; cases eo; exact ⟨vs, hd⟩
theorem Fld.tb {h : Heap} {e T : Addr} {ctx fl : Value} (x : ExcAt h e ctx (some (T, fl))) : Fld h T := fun o eo => by
  obtain ⟨ob, vs, ho, _, hd, _, _, _, _, oT, ts, hT, hdT, _⟩ := x
  rw [hT] at eo; cases eo; exact ⟨ts, hdT⟩

/-- X: places that hold nothing or records, above the base and above H -/
def FldX (B H h : Heap) (X : List Addr) : Prop := ∀ a ∈ X, B.get? a = none ∧ H.get? a = none ∧ Fld h a
theorem FldX.nil {B H h : Heap} : FldX B H h [] := fun _ h => (nomatch h)
theorem FldX.one {B H h : Heap} {a : Addr} (hB : B.get? a = none) (hH : H.get? a = none) (h1 : Fld h a) : FldX B H h [a] := fun b hb => by
  rw [List.mem_singleton.mp hb]; exact ⟨hB, hH, h1⟩
theorem FldX.cons {B H h : Heap} {a : Addr} {X : List Addr} (hB : B.get? a = none) (hH : H.get? a = none) (h1 : Fld h a) (x : FldX B H h X) : FldX B H h (a :: X) := fun b hb => by
  rcases List.mem_cons.mp hb with rfl | hb
  · exact ⟨hB, hH, h1⟩
  · exact x b hb
theorem FldX.noSeq {B H h : Heap} {X : List Addr} (x : FldX B H h X) : NoSeq h X := fun a ha o e xs n q => by
  obtain ⟨vs, hd⟩ := (x a ha).2.2 o e
  rw [hd] at q; cases q
theorem FldX.noDict {B H h : Heap} {X : List Addr} (x : FldX B H h X) : ∀ a ∈ X, ∀ o, h.get? a = some o → ∀ es ep, o.data ≠ .dict es ep := fun a ha o e es ep q => by
  obtain ⟨vs, hd⟩ := (x a ha).2.2 o e
  rw [hd] at q; cases q
theorem FldX.ns {B H h : Heap} {X : List Addr} {L : Addr} {m : Str → Option Value} (x : FldX B H h X) (hn : h.Ns L m) : L ∉ X := fun q => by
  obtain ⟨o, es, ep, e, hd, _⟩ := hn
  exact x.noDict L q o e es ep hd
theorem FldX.list {B H h : Heap} {X : List Addr} {l : Addr} {vs : Array Value} (x : FldX B H h X) (hl : h.IsList l vs) : l ∉ X := fun q => by
  obtain ⟨o, e, _, n, hd⟩ := hl
  exact x.noSeq l q o e vs n hd

/-- an IndexError on its way through the frame L; sp: the state when it was raised -/
def FlyT (B H : Heap) (fl ctx : Value) (sp : Shared) (x : Value) (s' : Shared) : Prop :=
  ∃ e X T, x = .ref e ∧ Go B X sp s' ∧ e ∈ X ∧ T ∈ X ∧ FldX B H sp.heap X ∧ ExcAt s'.heap e ctx (some (T, fl))
def Fly (B H : Heap) (L : Addr) (ctx : Value) (sp : Shared) (x : Value) (s' : Shared) : Prop :=
  (∃ e X, x = .ref e ∧ Go B X sp s' ∧ e ∈ X ∧ FldX B H sp.heap X ∧ ExcAt s'.heap e ctx none) ∨ FlyT B H (rawInt L) ctx sp x s'

theorem Go.into {B : Heap} {X : List Addr} {a : Addr} {sp s s' : Shared} (g : Go B X sp s) (g2 : Go B [a] s s') (ha : a ∈ X) : Go B X sp s' :=
  g.trans (g2.mono fun b hb => by rw [List.mem_singleton.mp hb]; exact ha)

section
variable {M : Model} {A : Around} {E : Value → Shared → Prop} {s sp : Shared} {B H : Heap} {env : Env} {outer : List Env} {L : Addr} {x ctx : Value}

theorem fly_note {Q : Unit → Shared → Prop} (hfr : A.frames = some (env :: outer)) (hF : FrOK B sp.heap (env :: outer)) (hf : env.frame = some L) (hS : B.StaysIn sp.heap) (hH : ∀ a, sp.heap.get? a = none → H.get? a = none) (hx : Fly B H L ctx sp x s)
    (h : ∀ s', FlyT B H (rawInt L) ctx sp x s' → Q () s') : wpAny M A (noteFrame x env) Q E s := by
  rcases hx with ⟨e, X, rfl, g, he, hX, hx⟩ | hx
  · refine note1 hfr (hF.go g hX.noDict) hf hx (hX e he).1 fun s' T g2 hT hx2 => h s' ?_
    have hBT : B.get? T = none := none_of_stays (g.base hS) hT
    have hT' : T ∈ X ∨ sp.heap.get? T = none := by
      by_cases hTX : T ∈ X
      · exact .inl hTX
      · right
        cases q : sp.heap.get? T with
        | none => rfl
        | some o =>
          obtain ⟨o', e', _⟩ := g.ext T o hTX q
          rw [hT] at e'; cases e'
    refine ⟨e, T :: X, T, rfl, ?_, .tail _ he, .head _, .cons hBT ?_ ?_ hX, hx2⟩
    · exact (g.into g2 he).mono fun b hb => .tail _ hb
    · rcases hT' with h1 | h1
      · exact (hX T h1).2.1
      · exact hH T h1
    · rcases hT' with h1 | h1
      · exact (hX T h1).2.2
      · exact .none h1
  · obtain ⟨e, X, T, rfl, g, he, hTX, hX, hx⟩ := hx
    exact note2 hf hx (h s ⟨e, X, T, rfl, g, he, hTX, hX, hx⟩)

theorem fly_flight {Q : Unit → Shared → Prop} {fl : Value} {fr : Option Addr} (hx : FlyT B H fl ctx sp x s) (h : ∀ s', FlyT B H (fr.elim .none fun f => rawInt f) ctx sp x s' → Q () s') : wpAny M A (setFlight x fr) Q E s := by
  obtain ⟨e, X, T, rfl, g, he, hTX, hX, hx⟩ := hx
  exact flight hx (hX T hTX).1 fun s' g2 hx2 => h s' ⟨e, X, T, rfl, g.into g2 hTX, he, hTX, hX, hx2⟩
theorem fly_came {fl : Value} (hf : env.frame = some L) (hx : FlyT B H fl ctx sp x s) (h : ∀ s', FlyT B H (rawInt L) ctx sp x s' → E x s') : cameBackBy M A env E x s := by
  obtain ⟨e, X, T, rfl, g, he, hTX, hX, hx⟩ := hx
  exact came hf hx (hX T hTX).1 fun s' g2 hx2 => h s' ⟨e, X, T, rfl, g.into g2 hTX, he, hTX, hX, hx2⟩
theorem fly_pass {α : Type} {Q : α → Shared → Prop} {what : String} {fl : Value} (hf : env.frame = some L) (hx : FlyT B H fl ctx sp x s) (h : ∀ s', FlyT B H (rawInt L) ctx sp x s' → E x s') : wpAny M A (PySem.passOn what x env : Sem α) Q E s := by
  obtain ⟨e, X, T, rfl, g, he, hTX, hX, hx⟩ := hx
  exact pass hf hx (hX T hTX).1 fun s' g2 hx2 => h s' ⟨e, X, T, rfl, g.into g2 hTX, he, hTX, hX, hx2⟩
theorem fly_noted (hfr : A.frames = some (env :: outer)) (hF : FrOK B sp.heap (env :: outer)) (hf : env.frame = some L) (hS : B.StaysIn sp.heap) (hH : ∀ a, sp.heap.get? a = none → H.get? a = none) (hx : Fly B H L ctx sp x s)
    (h : ∀ s', FlyT B H (rawInt L) ctx sp x s' → E x s') : notedBy M A env E x s := fly_note hfr hF hf hS hH hx h
end

/-! an item, in and out -/
section
variable {prog : Program} {w : World} {A : Around} {E : Value → Shared → Prop} {s : Shared} {B : Heap} {Q : Value → Shared → Prop} {value slice : PySem.Expr} {l : Addr} {vs : List Value} {j : Nat} {t : Tok}
theorem sub_in {v : Value} (hl : s.heap.IsList l vs.toArray) (hv : vs[j]? = some v) (hj : j < 1000) (h : Q v s)
    (hs : subscripted slice false (.ref l) (.int (j : Int) t) = operate [.ref l, .int (j : Int) t] (getItem (.ref l) (.int (j : Int) t))) :
    wpAny (model prog w) A (subscriptTail value slice (.ref l) (.int (j : Int) t)) Q E s :=
  tail_any hl.typeIs slot_list_getitem.lookup (wpAny_getItem_list hl (by omega) (by omega) (by simpa using hv) h) hs
theorem sub_out (hA : HandOK A s.heap) (hS : B.StaysIn s.heap) (hl : s.heap.IsList l vs.toArray) (hout : vs.length ≤ j) (hj : j < 1000)
    (hE : ∀ s' e, Go B [] s s' → s.heap.get? e = none → (∃ ctx, ExcAt s'.heap e ctx none ∧ (A.handled = none → ctx = .none)) → E (.ref e) s')
    (hs : subscripted slice false (.ref l) (.int (j : Int) t) = operate [.ref l, .int (j : Int) t] (getItem (.ref l) (.int (j : Int) t))) :
    wpAny (model prog w) A (subscriptTail value slice (.ref l) (.int (j : Int) t)) Q E s :=
  tail_any hl.typeIs slot_list_getitem.lookup (item_out hA hS hl (by simpa using hout) hj hE) hs
end

/-! while xs[k] == v: .. with an item that is not v, or none -/
section
variable {prog : Program} {w : World} {A : Around} {E : Value → Shared → Prop} {sp : Shared} {B H : Heap} {qual : Str} {sc : Scope} {L f : Addr} {cd : Value} {m : Str → Option Value} {outer : List Env}
theorem skip_while {n1 n2 n3 : Str} {p1 p2 p3 p4 p5 p6 : Pos} {body : List Stmt} {Q : Flow → Shared → Prop} {l : Addr} {vs : List Value} {ps : List Pr} {k : Nat} {t : Tok} {v : Value} {p : Pr}
    (hA : HandOK A sp.heap) (hu : A.units + 64 < cLine) (hfr : A.frames = some (envOf qual sc L f cd :: outer)) (hF : FrOK B sp.heap (envOf qual sc L f cd :: outer)) (hS : B.StaysIn sp.heap) (hH : ∀ a, sp.heap.get? a = none → H.get? a = none)
    (hn : sp.heap.Ns L m) (h1 : m n1 = some (.ref l)) (h2 : m n2 = some (.int (k : Int) t)) (h3 : m n3 = some v) (hl : sp.heap.IsList l vs.toArray) (hps : TupsAt sp.heap vs ps) (hv : TupAt sp.heap v p)
    (hok : ∀ q ∈ ps, Okp q) (hp : Okp p) (hk1000 : k < 1000) (hne : ∀ q, ps[k]? = some q → q ≠ p)
    (hk : sc.kind = .function) (k1 : (envOf qual sc L f cd).kindOf n1 = some .local) (k2 : (envOf qual sc L f cd).kindOf n2 = some .local) (k3 : (envOf qual sc L f cd).kindOf n3 = some .local)
    (d1 : (n1 == ("__debug__" : Str)) = false) (d2 : (n2 == ("__debug__" : Str)) = false) (d3 : (n3 == ("__debug__" : Str)) = false)
    (hin : k < ps.length → Q .next sp) (hout : ps.length ≤ k → ∀ x s' ctx, (A.handled = none → ctx = .none) → FlyT B H (rawInt L) ctx sp x s' → E x s') :
    wpAny (model prog w) A (exec (.While (.Compare (.Subscript (.Name n1 p1) (.Name n2 p2) p3) [.Eq] [.Name n3 p4] p5) body [] p6) (envOf qual sc L f cd)) Q E sp := by
  refine wpAny_While (codeAny_whileLoop (fun n s => n = 0 ∧ s = sp) ?_ 0 ⟨rfl, rfl⟩)
  rintro n s ⟨rfl, rfl⟩
  refine wpAny_isTrue_Compare1 (Subscript_ (ldN hn h1 (ldN hn h2 ?_ hk k2 d2) hk k1 d1)) rfl
  have hlen := hps.length
  by_cases hlt : k < ps.length
  · obtain ⟨w', hw⟩ : ∃ w', vs[k]? = some w' := ⟨_, List.getElem?_eq_getElem (by omega)⟩
    obtain ⟨q, hq, hT⟩ := hps.get hw
    refine sub_in hl hw hk1000 ?_ rfl
    refine ldN hn h3 (eq_pair hT hv (hok q (List.mem_of_getElem? hq)) hp hu (wpAny_truthy_bool ?_)) hk k3 d3
    rw [if_neg (by simpa using hne q hq)]
    exact wpAny_execs_nil (hin hlt)
  · refine sub_out (B := B) hA hS hl (by omega) hk1000 (fun s' e g hn' hx => ?_) rfl
    obtain ⟨ctx, hx, hctx⟩ := hx
    have hBe := none_of_stays hS hn'
    refine fly_noted (sp := s) (B := B) (H := H) (L := L) (ctx := ctx) hfr hF rfl hS hH (.inl ⟨e, [e], rfl, g.nil, .head _, .one hBe (hH e hn') (.none hn'), hx⟩) fun s2 hx2 => ?_
    exact fly_came rfl hx2 fun s3 hx3 => hout (by omega) _ s3 ctx hctx hx3
end
end Mine

namespace Mine

/-! the plain function -/
def sldGo (a : Pr) (as : List Pr) (f : List Pr → List Pr × List Pr) : List Pr → List Pr × List Pr
  | [] => (a :: as, [])
  | b :: bs =>
    if plt a b then (a :: (f (b :: bs)).1, (f (b :: bs)).2)
    else if plt b a then ((sldGo a as f bs).1, b :: (sldGo a as f bs).2)
    else f bs
def sld : List Pr → List Pr → List Pr × List Pr
  | [] => fun bs => ([], bs)
  | a :: as => sldGo a as (sld as)
theorem sld_cc {a b : Pr} {as bs : List Pr} : sld (a :: as) (b :: bs) = if plt a b then (a :: (sld as (b :: bs)).1, (sld as (b :: bs)).2)
    else if plt b a then ((sld (a :: as) bs).1, b :: (sld (a :: as) bs).2) else sld as bs := rfl
theorem sld_ind {motive : List Pr → List Pr → Prop} (c1 : ∀ bs, motive [] bs) (c2 : ∀ a as, motive (a :: as) [])
    (c3 : ∀ a as b bs, plt a b = true → motive as (b :: bs) → motive (a :: as) (b :: bs))
    (c4 : ∀ a as b bs, ¬ plt a b = true → plt b a = true → motive (a :: as) bs → motive (a :: as) (b :: bs))
    (c5 : ∀ a as b bs, ¬ plt a b = true → ¬ plt b a = true → motive as bs → motive (a :: as) (b :: bs)) : ∀ es as, motive es as := by
  intro es
  induction es with
  | nil => exact c1
  | cons a as ih =>
    intro bs
    induction bs with
    | nil => exact c2 a as
    | cons b bs ih2 =>
      by_cases h : plt a b = true
      · exact c3 a as b bs h (ih _)
      by_cases h' : plt b a = true
      · exact c4 a as b bs h h' ih2
      · exact c5 a as b bs h h' (ih _)

abbrev upd (m : Str → Option Value) (x : Str) (v : Value) : Str → Option Value := fun y => if y = x then some v else m y
theorem upd_ne {m : Str → Option Value} {x y : Str} {v : Value} (h : y ≠ x) : upd m x v y = m y := if_neg h
theorem upd_eq {m : Str → Option Value} {x : Str} {v : Value} : upd m x v x = some v := if_pos rfl

theorem plt_irrefl (p : Pr) : plt p p = false := by simp [plt, ltS]
theorem plt_ne {p q : Pr} (h : plt p q = true) : q ≠ p := fun e => by rw [e, plt_irrefl] at h; cases h

/-- the frame's names -/
structure Loc (m : Str → Option Value) (lE lA lm lu : Addr) (i j : Nat) : Prop where
  ne : m (Str.ofString "expected") = some (.ref lE)
  na : m (Str.ofString "actual") = some (.ref lA)
  ni : ∃ t, m (Str.ofString "i") = some (.int (i : Int) t)
  nj : ∃ t, m (Str.ofString "j") = some (.int (j : Int) t)
  nm : m (Str.ofString "missing") = some (.ref lm)
  nu : m (Str.ofString "unexpected") = some (.ref lu)

section
variable {m : Str → Option Value} {lE lA lm lu : Addr} {i j : Nat} {v : Value}
theorem Loc.setE (x : Loc m lE lA lm lu i j) : Loc (upd m (Str.ofString "e") v) lE lA lm lu i j :=
  ⟨(upd_ne (by decide)).trans x.ne, (upd_ne (by decide)).trans x.na, x.ni.imp fun _ h => (upd_ne (by decide)).trans h, x.nj.imp fun _ h => (upd_ne (by decide)).trans h, (upd_ne (by decide)).trans x.nm, (upd_ne (by decide)).trans x.nu⟩
theorem Loc.setA (x : Loc m lE lA lm lu i j) : Loc (upd m (Str.ofString "a") v) lE lA lm lu i j :=
  ⟨(upd_ne (by decide)).trans x.ne, (upd_ne (by decide)).trans x.na, x.ni.imp fun _ h => (upd_ne (by decide)).trans h, x.nj.imp fun _ h => (upd_ne (by decide)).trans h, (upd_ne (by decide)).trans x.nm, (upd_ne (by decide)).trans x.nu⟩
theorem Loc.setI {i' : Nat} {t : Tok} (x : Loc m lE lA lm lu i j) : Loc (upd m (Str.ofString "i") (.int (i' : Int) t)) lE lA lm lu i' j :=
  ⟨(upd_ne (by decide)).trans x.ne, (upd_ne (by decide)).trans x.na, ⟨t, upd_eq⟩, x.nj.imp fun _ h => (upd_ne (by decide)).trans h, (upd_ne (by decide)).trans x.nm, (upd_ne (by decide)).trans x.nu⟩
theorem Loc.setJ {j' : Nat} {t : Tok} (x : Loc m lE lA lm lu i j) : Loc (upd m (Str.ofString "j") (.int (j' : Int) t)) lE lA lm lu i j' :=
  ⟨(upd_ne (by decide)).trans x.ne, (upd_ne (by decide)).trans x.na, x.ni.imp fun _ h => (upd_ne (by decide)).trans h, ⟨t, upd_eq⟩, (upd_ne (by decide)).trans x.nm, (upd_ne (by decide)).trans x.nu⟩
end

/-- what the call is given -/
structure SD (B : Heap) (s : Shared) (L lE lA lm lu : Addr) (evs avs : List Value) (es as : List Pr) : Prop where
  stays : B.StaysIn s.heap
  hL : s.heap.get? L = none
  hm : s.heap.get? lm = none
  hu : s.heap.get? lu = none
  mu : lm ≠ lu
  hlE : s.heap.IsList lE evs.toArray
  hlA : s.heap.IsList lA avs.toArray
  tE : TupsAt s.heap evs es
  tA : TupsAt s.heap avs as
  okE : ∀ p ∈ es, Okp p
  okA : ∀ p ∈ as, Okp p
  srE : es.Pairwise fun p q => plt p q = true
  srA : as.Pairwise fun p q => plt p q = true
  nE : es.length < 400
  nA : as.length < 400

structure LS (B : Heap) (s : Shared) (L lE lA lm lu : Addr) (es as : List Pr) (sp : Shared) (m : Str → Option Value) (i j : Nat) (pm pu : List Pr) : Prop where
  go : Go B [] s sp
  ns : sp.heap.Ns L m
  loc : Loc m lE lA lm lu i j
  fm : ∃ mvs : List Value, sp.heap.PlainList lm mvs.toArray ∧ TupsAt sp.heap mvs pm
  fu : ∃ uvs : List Value, sp.heap.PlainList lu uvs.toArray ∧ TupsAt sp.heap uvs pu
  ib : i ≤ es.length
  jb : j ≤ as.length
  mb : pm.length ≤ i
  ub : pu.length ≤ j

theorem ne_ns_plain {h : Heap} {L l : Addr} {m : Str → Option Value} {vs : Array Value} (hn : h.Ns L m) (hl : h.PlainList l vs) : l ≠ L := by
  rintro rfl
  obtain ⟨o, es, ep, e, hd, _⟩ := hn
  obtain ⟨n, e'⟩ := hl
  rw [e'] at e; cases e; cases hd

section
variable {B : Heap} {s : Shared} {L lE lA lm lu : Addr} {evs avs : List Value} {es as : List Pr} {sp sp' : Shared} {m m' : Str → Option Value} {i j i' j' : Nat} {pm pu : List Pr}

theorem LS.pure (ls : LS B s L lE lA lm lu es as sp m i j pm pu) (g : Go B [] sp sp') : LS B s L lE lA lm lu es as sp' m i j pm pu := by
  obtain ⟨mvs, m1, m2⟩ := ls.fm
  obtain ⟨uvs, u1, u2⟩ := ls.fu
  exact ⟨ls.go.trans g, g.ns (by simp) ls.ns, ls.loc, ⟨mvs, g.plain (by simp) m1, m2.go g .nil⟩, ⟨uvs, g.plain (by simp) u1, u2.go g .nil⟩, ls.ib, ls.jb, ls.mb, ls.ub⟩
theorem LS.flown {X : List Addr} (ls : LS B s L lE lA lm lu es as sp m i j pm pu) (g : Go B X sp sp') (hX : FldX B s.heap sp.heap X) : LS B s L lE lA lm lu es as sp' m i j pm pu := by
  obtain ⟨mvs, m1, m2⟩ := ls.fm
  obtain ⟨uvs, u1, u2⟩ := ls.fu
  exact ⟨ls.go.drop g fun x hx => .inr (hX x hx).2.1, g.ns (hX.ns ls.ns) ls.ns, ls.loc, ⟨mvs, g.plain (hX.list m1.isList) m1, m2.go g hX.noSeq.tup⟩, ⟨uvs, g.plain (hX.list u1.isList) u1, u2.go g hX.noSeq.tup⟩, ls.ib, ls.jb, ls.mb, ls.ub⟩
theorem LS.store (sd : SD B s L lE lA lm lu evs avs es as) (ls : LS B s L lE lA lm lu es as sp m i j pm pu) (g : Go B [L] sp sp') (hn : sp'.heap.Ns L m') (hl : Loc m' lE lA lm lu i' j') (hi : i ≤ i') (hj : j ≤ j') (hib : i' ≤ es.length) (hjb : j' ≤ as.length) :
    LS B s L lE lA lm lu es as sp' m' i' j' pm pu := by
  obtain ⟨mvs, m1, m2⟩ := ls.fm
  obtain ⟨uvs, u1, u2⟩ := ls.fu
  have hS := NoSeq.ns ls.ns
  exact ⟨ls.go.drop1 g sd.hL, hn, hl, ⟨mvs, g.plain (by simpa using ne_ns_plain ls.ns m1) m1, m2.go g hS.tup⟩, ⟨uvs, g.plain (by simpa using ne_ns_plain ls.ns u1) u1, u2.go g hS.tup⟩, hib, hjb, Nat.le_trans ls.mb hi, Nat.le_trans ls.ub hj⟩
end
end Mine

namespace Mine

section
variable {prog : Program} {w : World} {A : Around} {E : Value → Shared → Prop} {s : Shared} {B : Heap} {env : Env}

theorem meth_list {o : PySem.Expr} {name : Str} {apos pos : Pos} {args : List PySem.Expr} {pl : Sem Bool} {Q : Value → Shared → Prop} {l : Addr} {id : String} (slot : Slot "list" name id) (hty : typeOf (.builtin id) = pure (.type "method_descriptor"))
    (h : wpAny (model prog w) A (eval o env) (fun ov s₁ => ov = .ref l ∧ (∃ vs, s₁.heap.PlainList l vs) ∧ wpAny (model prog w) A (callWith pos (.builtin id) [.ref l] (backTo pos (starEach args env)) []) Q E s₁) E s)
    (he : eval (.Call (.Attribute o name apos) args [] pos) env = (do
      let ov ← eval o env
      standAt apos.atName
      let (f, first) ← holding [ov] (getMethod ov name pl)
      callWith pos f first (backTo pos (starEach args env)) [])) :
    wpAny (model prog w) A (eval (.Call (.Attribute o name apos) args [] pos) env) Q E s := by
  refine MethodCall_ (pl := pl) (wpAny_mono h (fun ov s₁ h₁ => ?_) fun _ _ x => x) he
  obtain ⟨rfl, ⟨vs, n, e⟩, hc⟩ := h₁
  exact getMethod_builtin ⟨_, e, rfl⟩ F.plainAttrs_list slot hty (fun a ha => by cases ha; exact ⟨_, e, rfl⟩) hc

theorem app_stmt {o arg : PySem.Expr} {apos pos p5 : Pos} {pl : Sem Bool} {Q : Flow → Shared → Prop} {l : Addr} {vs : List Value}
    (h : wpAny (model prog w) A (eval o env) (fun ov s₁ => ov = .ref l ∧ s₁.heap.PlainList l vs.toArray ∧
      wpAny (model prog w) A (eval arg env) (fun v s₂ => s₂.heap.PlainList l vs.toArray ∧ vs.length ≤ 1000 ∧ B.get? l = none ∧ ∀ s₃, Go B [l] s₂ s₃ → s₃.heap.PlainList l (vs ++ [v]).toArray → Q .next s₃) E s₁) E s)
    (he : eval (.Call (.Attribute o (Str.ofString "append") apos) [arg] [] pos) env = (do
      let ov ← eval o env
      standAt apos.atName
      let (f, first) ← holding [ov] (getMethod ov (Str.ofString "append") pl)
      callWith pos f first (backTo pos (starEach [arg] env)) []))
    (hi : interactive env = false) (hs : swapsWith (.Call (.Attribute o (Str.ofString "append") apos) [arg] [] pos) none p5.line env = pure false)
    (hst : starEach [arg] env = (false, eval arg env) :: starEach [] env) :
    wpAny (model prog w) A (exec (.Expr (.Call (.Attribute o (Str.ofString "append") apos) [arg] [] pos) p5) env) Q E s := by
  refine wpAny_Expr (meth_list (pl := pl) (l := l) F.slot_list_append F.type_list_append (wpAny_mono h (fun ov s₁ h₁ => ?_) fun _ _ x => x) he) hi hs
  obtain ⟨rfl, hp, hc⟩ := h₁
  refine ⟨rfl, ⟨_, hp⟩, callWith_method1 (spliced_more (wpAny_mono hc (fun v s₂ h₂ => spliced_none ?_) fun _ _ x => x) hst) hst rfl⟩
  obtain ⟨hp2, hz, hB, hq⟩ := h₂
  refine wpAny_list_append_plain hp2 (fun h' hp' hsb => ?_) (by rw [List.size_toArray, sizeLine_eq]; omega)
  exact hq _ (Go.but (tk := s₂.toks) (fun b o hb e => (hsb.2 b hb).trans e) hB) (by simpa using hp')

/-- xs.extend(arg), the argument a new list -/
theorem ext_stmt {o arg : PySem.Expr} {apos pos p5 : Pos} {pl : Sem Bool} {Q : Flow → Shared → Prop} {l : Addr} {vs : List Value}
    (h : wpAny (model prog w) A (eval o env) (fun ov s₁ => ov = .ref l ∧ s₁.heap.PlainList l vs.toArray ∧
      wpAny (model prog w) A (eval arg env) (fun v s₂ => ∃ b us, v = .ref b ∧ s₂.heap.PlainList b (List.toArray us) ∧ us.length ≤ 1000 ∧ s₂.heap.PlainList l vs.toArray ∧ vs.length ≤ 1000 ∧ B.get? l = none ∧ ∀ s₃, Go B [l] s₂ s₃ → s₃.heap.PlainList l (vs ++ us).toArray → Q .next s₃) E s₁) E s)
    (he : eval (.Call (.Attribute o (Str.ofString "extend") apos) [arg] [] pos) env = (do
      let ov ← eval o env
      standAt apos.atName
      let (f, first) ← holding [ov] (getMethod ov (Str.ofString "extend") pl)
      callWith pos f first (backTo pos (starEach [arg] env)) []))
    (hi : interactive env = false) (hs : swapsWith (.Call (.Attribute o (Str.ofString "extend") apos) [arg] [] pos) none p5.line env = pure false)
    (hst : starEach [arg] env = (false, eval arg env) :: starEach [] env) :
    wpAny (model prog w) A (exec (.Expr (.Call (.Attribute o (Str.ofString "extend") apos) [arg] [] pos) p5) env) Q E s := by
  refine wpAny_Expr (meth_list (pl := pl) (l := l) F.slot_list_extend F.type_list_extend (wpAny_mono h (fun ov s₁ h₁ => ?_) fun _ _ x => x) he) hi hs
  obtain ⟨rfl, hp, hc⟩ := h₁
  refine ⟨rfl, ⟨_, hp⟩, callWith_method1 (spliced_more (wpAny_mono hc (fun v s₂ h₂ => spliced_none ?_) fun _ _ x => x) hst) hst rfl⟩
  obtain ⟨b, us, rfl, ⟨n2, hb⟩, hz2, ⟨n, hp2⟩, hz, hB, hq⟩ := h₂
  have hsz : vs.toArray.size + us.toArray.size ≤ sizeLine := by simp only [List.size_toArray, sizeLine_eq]; omega
  refine call_meets F.slot_list_extend ⟨_, hp2, rfl⟩ F.entry_list_extend (F.args_list_extend_2 _ _) (AutoSeq1.list_extend_list_list_0 l vs.toArray n b us.toArray n2 (extend_door hsz) (Nat.le_trans (Nat.le_add_right _ _) hsz) (Nat.le_succ_of_le hsz)) ⟨hp2, hb, ?_⟩
  refine hq _ (Go.but (s := s₂) (tk := s₂.toks) (fun b o hb e => (Heap.get?_update_other _ _ (Ne.symm hb)).trans e) hB) ⟨if (vs.toArray ++ us.toArray).size == vs.toArray.size then n else n + 1, ?_⟩
  show (s₂.heap.update l _).get? l = _
  rw [Heap.get?_update_self _ hp2 (by rw [mapSeq_app]; rfl), mapSeq_app]
  simp

/-- xs[i:] -/
theorem ev_from {value lo : PySem.Expr} {p3 p4 : Pos} {Q : Value → Shared → Prop}
    (h : wpAny (model prog w) A (eval value env) (fun o s₁ => wpAny (model prog w) A (eval lo env) (fun vl s₂ => ∃ l vs i t, o = .ref l ∧ s₂.heap.IsList l (List.toArray vs) ∧ vs.length ≤ 1000 ∧ vl = .int ((i : Nat) : Int) t ∧ i ≤ vs.length ∧
      ∀ s' b, Go B [] s₂ s' → s₂.heap.get? b = none → s'.heap.PlainList b (vs.drop i).toArray → Q (.ref b) s') E s₁) E s)
    (ht : ∀ o r, letTemporaryGo value o r = pure ()) :
    wpAny (model prog w) A (eval (.Subscript value (.Slice (some lo) none none p3) p4) env) Q E s := by
  refine wpAny_Subscript_list_slice (wpAny_mono h (fun o s₁ h₁ => wpAny_evalPart_some (wpAny_mono h₁ (fun vl s₂ h₂ => wpAny_evalPart_none ?_) fun _ _ x => x)) fun _ _ x => x) ht
  obtain ⟨l, vs, i, t, rfl, hl, hz, rfl, hi, hq⟩ := h₂
  refine ⟨l, vs.toArray, some (i : Int), none, rfl, hl, by rw [List.size_toArray, sizeLine_eq]; omega, .int _ _, .none, ?_⟩
  refine hq _ (s₂.heap.objs.size + 1) (Go.keep (tk := s₂.toks) fun b o e => Heap.get?_push_of_some _ (Heap.get?_push_of_some _ e)) (Heap.get?_none_of_le (by omega)) ⟨0, ?_⟩
  rw [slicePick_from _ _ (by simpa using hi)]
  have e : s₂.heap.objs.size + 1 = (s₂.heap.push { cls := .type "slice", data := .fields #[.int (i : Int) t, .none, .none] }).objs.size := by simp
  show Heap.get? _ (s₂.heap.objs.size + 1) = _
  rw [e]
  exact Heap.get?_push_size _ rfl
end
end Mine

namespace Mine

theorem sld_lt {a b : Pr} {as bs : List Pr} (h : plt a b = true) : sld (a :: as) (b :: bs) = (a :: (sld as (b :: bs)).1, (sld as (b :: bs)).2) := by rw [sld_cc, if_pos h]
theorem sld_gt {a b : Pr} {as bs : List Pr} (h : plt a b = false) (h' : plt b a = true) : sld (a :: as) (b :: bs) = ((sld (a :: as) bs).1, b :: (sld (a :: as) bs).2) := by rw [sld_cc, if_neg (by rw [h]; decide), if_pos h']
theorem sld_eq {a b : Pr} {as bs : List Pr} (h : plt a b = false) (h' : plt b a = false) : sld (a :: as) (b :: bs) = sld as bs := by rw [sld_cc, if_neg (by rw [h]; decide), if_neg (by rw [h']; decide)]
theorem sld_nil {bs : List Pr} : sld [] bs = ([], bs) := rfl
theorem sld_nil' : ∀ {as : List Pr}, sld as [] = (as, [])
  | [] => rfl
  | _ :: _ => rfl

def whileBody : Stmt → List Stmt
  | .While _ b _ _ => b
  | _ => []
def tryBody : Stmt → List Stmt
  | .Try b _ _ _ _ => b
  | _ => []
def sldTry : Stmt := (whileBody ((bodyOf sldS).getD 3 (.Pass ⟨0, 0, 0, 0⟩))).getD 0 (.Pass ⟨0, 0, 0, 0⟩)
abbrev sldEnv (L f : Addr) (cd : Value) : Env := envOf (Str.ofString "sorted_list_difference") (scopeOf sldS) L f cd

section
variable {L f : Addr} {cd : Value}
theorem sk : (scopeOf sldS).kind = .function := by with_unfolding_all rfl
theorem sk_i : (sldEnv L f cd).kindOf (Str.ofString "i") = some .local := by with_unfolding_all rfl
theorem sk_j : (sldEnv L f cd).kindOf (Str.ofString "j") = some .local := by with_unfolding_all rfl
theorem sk_e : (sldEnv L f cd).kindOf (Str.ofString "e") = some .local := by with_unfolding_all rfl
theorem sk_a : (sldEnv L f cd).kindOf (Str.ofString "a") = some .local := by with_unfolding_all rfl
theorem sk_ex : (sldEnv L f cd).kindOf (Str.ofString "expected") = some .local := by with_unfolding_all rfl
theorem sk_ac : (sldEnv L f cd).kindOf (Str.ofString "actual") = some .local := by with_unfolding_all rfl
theorem sk_m : (sldEnv L f cd).kindOf (Str.ofString "missing") = some .local := by with_unfolding_all rfl
theorem sk_u : (sldEnv L f cd).kindOf (Str.ofString "unexpected") = some .local := by with_unfolding_all rfl
end

def EP (B : Heap) (s : Shared) (L lE lA lm lu : Addr) (es as : List Pr) (R : List Pr × List Pr) (x : Value) (s' : Shared) : Prop :=
  ∃ sp m i j pm pu ctx, LS B s L lE lA lm lu es as sp m i j pm pu ∧ pm ++ es.drop i = R.1 ∧ pu ++ as.drop j = R.2 ∧ Fly B s.heap L ctx sp x s'
def NP (B : Heap) (s : Shared) (L lE lA lm lu : Addr) (es as : List Pr) (R : List Pr × List Pr) (k : Nat) (s' : Shared) : Prop :=
  ∃ m i j pm pu, LS B s L lE lA lm lu es as s' m i j pm pu ∧ pm ++ (sld (es.drop i) (as.drop j)).1 = R.1 ∧ pu ++ (sld (es.drop i) (as.drop j)).2 = R.2 ∧ k < i + j

section
variable {B : Heap} {s : Shared} {L lE lA lm lu : Addr} {evs avs : List Value} {es as : List Pr} {sp sp1 sp2 : Shared} {m m' : Str → Option Value} {i j : Nat} {pm pu : List Pr}
theorem LS.above (ls : LS B s L lE lA lm lu es as sp m i j pm pu) : ∀ a, sp.heap.get? a = none → s.heap.get? a = none := fun a h => by
  cases q : s.heap.get? a with
  | none => rfl
  | some o =>
    obtain ⟨o', e, _⟩ := ls.go.ext a o (by simp) q
    rw [h] at e; cases e
theorem LS.frames {outer : List Env} {f : Addr} {cd : Value} (sd : SD B s L lE lA lm lu evs avs es as) (ls : LS B s L lE lA lm lu es as sp m i j pm pu) (hF : FrOK B s.heap outer) : FrOK B sp.heap (sldEnv L f cd :: outer) :=
  .cons (by show (scopeOf sldS).kind ≠ .module; rw [sk]; decide) rfl (none_of_stays sd.stays sd.hL) ls.ns (hF.go ls.go (fun _ h => (nomatch h)))
theorem LS.stays (sd : SD B s L lE lA lm lu evs avs es as) (ls : LS B s L lE lA lm lu es as sp m i j pm pu) : B.StaysIn sp.heap := ls.go.base sd.stays
theorem SD.bL (sd : SD B s L lE lA lm lu evs avs es as) : B.get? L = none := none_of_stays sd.stays sd.hL

theorem LS.appM {mvs : List Value} {v : Value} {p : Pr} (sd : SD B s L lE lA lm lu evs avs es as) (ls : LS B s L lE lA lm lu es as sp m i j pm pu) (hm : sp.heap.PlainList lm mvs.toArray) (hT : TupsAt sp.heap mvs pm) (hv : TupAt sp.heap v p)
    (g1 : Go B [lm] sp sp1) (h1 : sp1.heap.PlainList lm (mvs ++ [v]).toArray) (g2 : Go B [L] sp1 sp2) (hn : sp2.heap.Ns L m') (hl : Loc m' lE lA lm lu (i + 1) j) (hib : i + 1 ≤ es.length) :
    LS B s L lE lA lm lu es as sp2 m' (i + 1) j (pm ++ [p]) pu := by
  obtain ⟨uvs, u1, u2⟩ := ls.fu
  have hX1 := NoTup.list hm.isList
  have n1 : sp1.heap.Ns L m := g1.ns (by simpa using (ne_ns_plain ls.ns hm).symm) ls.ns
  have hX2 := (NoSeq.ns n1).tup
  have u1' := g1.plain (by simpa using sd.mu.symm) u1
  refine ⟨(ls.go.drop1 g1 sd.hm).drop1 g2 sd.hL, hn, hl, ⟨mvs ++ [v], g2.plain (by simpa using ne_ns_plain n1 h1) h1, ((hT.append (.one hv)).go g1 hX1).go g2 hX2⟩, ⟨uvs, g2.plain (by simpa using ne_ns_plain n1 u1') u1', (u2.go g1 hX1).go g2 hX2⟩, hib, ls.jb, ?_, ls.ub⟩
  have := ls.mb
  simp only [List.length_append, List.length_cons, List.length_nil]; omega
theorem LS.appU {uvs : List Value} {v : Value} {p : Pr} (sd : SD B s L lE lA lm lu evs avs es as) (ls : LS B s L lE lA lm lu es as sp m i j pm pu) (hm : sp.heap.PlainList lu uvs.toArray) (hT : TupsAt sp.heap uvs pu) (hv : TupAt sp.heap v p)
    (g1 : Go B [lu] sp sp1) (h1 : sp1.heap.PlainList lu (uvs ++ [v]).toArray) (g2 : Go B [L] sp1 sp2) (hn : sp2.heap.Ns L m') (hl : Loc m' lE lA lm lu i (j + 1)) (hjb : j + 1 ≤ as.length) :
    LS B s L lE lA lm lu es as sp2 m' i (j + 1) pm (pu ++ [p]) := by
  obtain ⟨mvs, u1, u2⟩ := ls.fm
  have hX1 := NoTup.list hm.isList
  have n1 : sp1.heap.Ns L m := g1.ns (by simpa using (ne_ns_plain ls.ns hm).symm) ls.ns
  have hX2 := (NoSeq.ns n1).tup
  have u1' := g1.plain (by simpa using sd.mu) u1
  refine ⟨(ls.go.drop1 g1 sd.hu).drop1 g2 sd.hL, hn, hl, ⟨mvs, g2.plain (by simpa using ne_ns_plain n1 u1') u1', (u2.go g1 hX1).go g2 hX2⟩, ⟨uvs ++ [v], g2.plain (by simpa using ne_ns_plain n1 h1) h1, ((hT.append (.one hv)).go g1 hX1).go g2 hX2⟩, ls.ib, hjb, ls.mb, ?_⟩
  have := ls.ub
  simp only [List.length_append, List.length_cons, List.length_nil]; omega
end

theorem next_ne {ps : List Pr} (h : ps.Pairwise fun p q => plt p q = true) {k : Nat} {p : Pr} (hp : ps[k]? = some p) : ∀ q, ps[k + 1]? = some q → q ≠ p := by
  intro q hq
  obtain ⟨h1, rfl⟩ := List.getElem?_eq_some_iff.mp hp
  obtain ⟨h2, rfl⟩ := List.getElem?_eq_some_iff.mp hq
  exact plt_ne (List.pairwise_iff_getElem.mp h k (k + 1) h1 h2 (by omega))

section
variable {prog : Program} {w : World} {A : Around} {B : Heap} {s : Shared} {L lE lA lm lu f : Addr} {cd : Value} {evs avs : List Value} {es as : List Pr} {sp : Shared} {m : Str → Option Value} {i j : Nat} {pm pu : List Pr} {outer : List Env} {R : List Pr × List Pr}

/-- k += 1 -/
theorem inc_stmt {E : Value → Shared → Prop} {n : Str} {k : Nat} {t : Tok} {c : Nat} {p1 p2 p3 : Pos} {Q : Flow → Shared → Prop} {qual : Str} {sc : Scope} (hn : sp.heap.Ns L m) (hm : m n = some (.int (k : Int) t)) (hB : B.get? L = none)
    (h : ∀ s' t', Go B [L] sp s' → s'.heap.Ns L (upd m n (.int ((k + 1 : Nat) : Int) t')) → Q .next s') (hk : sc.kind = .function) (hl : (envOf qual sc L f cd).kindOf n = some .local) :
    wpAny (model prog w) A (exec (.AugAssign (.Name n p1) .Add (.Constant (.int 1) c p2) p3) (envOf qual sc L f cd)) Q E sp := by
  refine wpAny_AugAssign_Name (ldNn hn hm (wpAny_Constant_int (wpAny_iadd_int ?_)) hk hl)
  rw [show (k : Int) + 1 = ((k + 1 : Nat) : Int) from by omega]
  refine stN (B := B) (s := _) hn hB (fun s' g hn' => h s' _ ?_ hn') hk hl
  exact ((Go.toks (X := [L])).trans g)

def elseOf : Stmt → List Stmt
  | .If _ _ e _ => e
  | _ => []
def finOf : Stmt → List Stmt
  | .Try _ _ _ fin _ => fin
  | _ => []
def sldFin : List Stmt := finOf ((elseOf ((elseOf ((tryBody sldTry).getD 2 (.Pass ⟨0, 0, 0, 0⟩))).getD 0 (.Pass ⟨0, 0, 0, 0⟩))).getD 1 (.Pass ⟨0, 0, 0, 0⟩))

/-- the finally suite -/
theorem sld_final {E : Value → Shared → Prop} {Q : Flow → Shared → Prop} {va : Value} {q : Pr} (hu : A.units + 64 < cLine) (hh : ∀ s', Go B [L] sp s' → HandOK A s'.heap) (hfr : A.frames = some (sldEnv L f cd :: outer)) (hF : FrOK B s.heap outer) (sd : SD B s L lE lA lm lu evs avs es as)
    (ls : LS B s L lE lA lm lu es as sp m i j pm pu) (ma : m (Str.ofString "a") = some va) (hva : avs[j]? = some va) (hq : as[j]? = some q)
    (hin : ∀ sp5 m5, Go B [L] sp sp5 → LS B s L lE lA lm lu es as sp5 m5 i (j + 1) pm pu → Q .next sp5)
    (hout : ∀ sp5 m5 x s' ctx, LS B s L lE lA lm lu es as sp5 m5 i (j + 1) pm pu → as.length ≤ j + 1 → FlyT B s.heap (rawInt L) ctx sp5 x s' → E x s') :
    wpAny (model prog w) A (execs sldFin (sldEnv L f cd)) Q E sp := by
  have nA := sd.nA
  obtain ⟨hlt, _⟩ := List.getElem?_eq_some_iff.mp hq
  obtain ⟨tj, hj⟩ := ls.loc.nj
  refine wpAny_execs_cons (inc_stmt (B := B) ls.ns hj sd.bL (fun sp5 t5 g5 hn5 => ?_) sk sk_j)
  have ls5 := ls.store sd g5 hn5 ls.loc.setJ (Nat.le_refl _) (by omega) ls.ib (by omega)
  have hlA5 := ls5.go.isList (by simp) sd.hlA
  have tA5 := sd.tA.go ls5.go .nil
  have hTa5 : TupAt sp5.heap va q := by
    obtain ⟨p', hp', hT'⟩ := tA5.get hva
    rw [hq] at hp'; cases hp'; exact hT'
  obtain ⟨tj5, hj5⟩ := ls5.loc.nj
  refine wpAny_execs_cons (skip_while (B := B) (H := s.heap) (k := j + 1) (hh sp5 g5) hu hfr (ls5.frames sd hF) (ls5.stays sd) ls5.above ls5.ns ls5.loc.na hj5 ((upd_ne (by decide)).trans ma) hlA5 tA5 hTa5 sd.okA (sd.okA q (List.mem_of_getElem? hq)) (by omega) (next_ne sd.srA hq) sk sk_ac sk_j sk_a (by decide) (by decide) (by decide) (fun _ => ?_) fun ho x s' ctx _ hx => hout sp5 _ x s' ctx ls5 ho hx)
  exact wpAny_execs_nil (hin sp5 _ g5 ls5)

theorem sld_turn (hu : A.units + 64 < cLine) (hA : A.handled = none) (hfr : A.frames = some (sldEnv L f cd :: outer)) (hF : FrOK B s.heap outer) (sd : SD B s L lE lA lm lu evs avs es as) (ls : LS B s L lE lA lm lu es as sp m i j pm pu)
    (hR1 : pm ++ (sld (es.drop i) (as.drop j)).1 = R.1) (hR2 : pu ++ (sld (es.drop i) (as.drop j)).2 = R.2) :
    wpAny (model prog w) A (execs (tryBody sldTry) (sldEnv L f cd)) (fun fl s' => fl = .next ∧ NP B s L lE lA lm lu es as R (i + j) s') (EP B s L lE lA lm lu es as R) sp := by
  have nE := sd.nE
  have nA := sd.nA
  have ib := ls.ib
  have jb := ls.jb
  have lenE := sd.tE.length
  have lenA := sd.tA.length
  have bL := sd.bL
  have hlE := ls.go.isList (by simp) sd.hlE
  have hlA := ls.go.isList (by simp) sd.hlA
  have htE := sd.tE.go ls.go .nil
  have htA := sd.tA.go ls.go .nil
  obtain ⟨ti, hi⟩ := ls.loc.ni
  obtain ⟨tj, hj⟩ := ls.loc.nj
  -- e = expected[i]
  refine wpAny_execs_cons (wpAny_Assign_Name (Subscript_ (ldN ls.ns ls.loc.ne (ldN ls.ns hi ?_ sk sk_i) sk sk_ex)))
  by_cases hlt : i < es.length
  case neg =>
    refine sub_out (B := B) (.inl hA) (ls.stays sd) hlE (by omega) (by omega) (fun s' x g hn hx => ?_) (by with_unfolding_all rfl)
    obtain ⟨ctx, hx, _⟩ := hx
    refine ⟨sp, m, i, j, pm, pu, ctx, ls, ?_, ?_, .inl ⟨x, [x], rfl, g.nil, .head _, .one (none_of_stays (ls.stays sd) hn) (ls.above x hn) (.none hn), hx⟩⟩
    · rw [List.drop_of_length_le (by omega), sld_nil] at hR1
      rw [List.drop_of_length_le (by omega)]; exact hR1
    · rw [List.drop_of_length_le (i := i) (by omega), sld_nil] at hR2; exact hR2
  obtain ⟨ve, hve⟩ : ∃ v, evs[i]? = some v := ⟨_, List.getElem?_eq_getElem (by omega)⟩
  obtain ⟨p, hp, hTe⟩ := htE.get hve
  refine sub_in hlE hve (by omega) ?_ (by with_unfolding_all rfl)
  refine stN (B := B) ls.ns bL (fun sp1 g1 hn1 => ?_) sk sk_e
  have ls1 := ls.store sd g1 hn1 ls.loc.setE (Nat.le_refl _) (Nat.le_refl _) ib jb
  -- a = actual[j]
  obtain ⟨tj1, hj1⟩ := ls1.loc.nj
  have hlA1 := ls1.go.isList (by simp) sd.hlA
  have htA1 := sd.tA.go ls1.go .nil
  refine wpAny_execs_cons (wpAny_Assign_Name (Subscript_ (ldN ls1.ns ls1.loc.na (ldN ls1.ns hj1 ?_ sk sk_j) sk sk_ac)))
  have dE : es.drop i = p :: es.drop (i + 1) := by
    obtain ⟨h1, rfl⟩ := List.getElem?_eq_some_iff.mp hp
    exact List.drop_eq_getElem_cons h1
  by_cases hltj : j < as.length
  case neg =>
    refine sub_out (B := B) (.inl hA) (ls1.stays sd) hlA1 (by omega) (by omega) (fun s' x g hn hx => ?_) (by with_unfolding_all rfl)
    obtain ⟨ctx, hx, _⟩ := hx
    refine ⟨sp1, _, i, j, pm, pu, ctx, ls1, ?_, ?_, .inl ⟨x, [x], rfl, g.nil, .head _, .one (none_of_stays (ls1.stays sd) hn) (ls1.above x hn) (.none hn), hx⟩⟩
    · rw [List.drop_of_length_le (i := j) (by omega), sld_nil'] at hR1; exact hR1
    · rw [List.drop_of_length_le (i := j) (by omega), sld_nil'] at hR2
      rw [List.drop_of_length_le (i := j) (by omega)]; exact hR2
  obtain ⟨va, hva⟩ : ∃ v, avs[j]? = some v := ⟨_, List.getElem?_eq_getElem (by omega)⟩
  obtain ⟨q, hq, hTa1⟩ := htA1.get hva
  have dA : as.drop j = q :: as.drop (j + 1) := by
    obtain ⟨h1, rfl⟩ := List.getElem?_eq_some_iff.mp hq
    exact List.drop_eq_getElem_cons h1
  refine sub_in hlA1 hva (by omega) ?_ (by with_unfolding_all rfl)
  refine stN (B := B) ls1.ns bL (fun sp2 g2 hn2 => ?_) sk sk_a
  have ls2 := ls1.store sd g2 hn2 ls1.loc.setA (Nat.le_refl _) (Nat.le_refl _) ib jb
  have okp : Okp p := sd.okE p (List.mem_of_getElem? hp)
  have okq : Okp q := sd.okA q (List.mem_of_getElem? hq)
  have tE2 := sd.tE.go ls2.go .nil
  have tA2 := sd.tA.go ls2.go .nil
  have hTe2 : TupAt sp2.heap ve p := by
    obtain ⟨p', hp', hT'⟩ := tE2.get hve
    rw [hp] at hp'; cases hp'; exact hT'
  have hTa2 : TupAt sp2.heap va q := by
    obtain ⟨p', hp', hT'⟩ := tA2.get hva
    rw [hq] at hp'; cases hp'; exact hT'
  have me : upd (upd m (Str.ofString "e") ve) (Str.ofString "a") va (Str.ofString "e") = some ve := (upd_ne (by decide)).trans upd_eq
  have ma : upd (upd m (Str.ofString "e") ve) (Str.ofString "a") va (Str.ofString "a") = some va := upd_eq
  rw [dE, dA] at hR1 hR2
  -- if e < a
  refine wpAny_execs_cons (wpAny_If (wpAny_isTrue_Compare1 (ldN ls2.ns me (ldN ls2.ns ma (lt_pair hTe2 hTa2 hu (wpAny_truthy_bool ?_)) sk sk_a) sk sk_e)))
  cases hlt' : plt p q with
  | true =>
    rw [if_pos rfl]
    rw [sld_lt hlt'] at hR1 hR2
    obtain ⟨mvs, hpm, htm⟩ := ls2.fm
    have lm2 := htm.length
    have mb2 := ls2.mb
    refine wpAny_execs_cons (app_stmt (B := B) (l := lm) (vs := mvs) (pl := _) (ldN ls2.ns ls2.loc.nm ⟨rfl, hpm, ldN ls2.ns me ⟨hpm, by omega, none_of_stays sd.stays sd.hm, fun sp3 g3 hp3 => ?_⟩ sk sk_e⟩ sk sk_m) (by with_unfolding_all rfl) (by with_unfolding_all rfl) (by with_unfolding_all rfl) (by with_unfolding_all rfl))
    have n3 := g3.ns (by simpa using (ne_ns_plain ls2.ns hpm).symm) ls2.ns
    obtain ⟨ti3, hi3⟩ := ls2.loc.ni
    refine wpAny_execs_cons (inc_stmt (B := B) n3 hi3 bL (fun sp4 t4 g4 hn4 => ?_) sk sk_i)
    have ls4 := ls2.appM sd hpm htm hTe2 g3 hp3 g4 hn4 ls2.loc.setI (by omega)
    have hlE4 := ls4.go.isList (by simp) sd.hlE
    have tE4 := sd.tE.go ls4.go .nil
    have hTe4 : TupAt sp4.heap ve p := by
      obtain ⟨p', hp', hT'⟩ := tE4.get hve
      rw [hp] at hp'; cases hp'; exact hT'
    obtain ⟨ti4, hi4⟩ := ls4.loc.ni
    refine wpAny_execs_cons (skip_while (B := B) (H := s.heap) (k := i + 1) (.inl hA) hu hfr (ls4.frames sd hF) (ls4.stays sd) ls4.above ls4.ns ls4.loc.ne hi4 ((upd_ne (by decide)).trans me) hlE4 tE4 hTe4 sd.okE okp (by omega) (next_ne sd.srE hp) sk sk_ex sk_i sk_e (by decide) (by decide) (by decide) (fun hin => ?_) fun hout x s' ctx _ hx => ?_)
    · refine wpAny_execs_nil (wpAny_execs_nil ⟨rfl, _, i + 1, j, pm ++ [p], pu, ls4, ?_, ?_, by omega⟩)
      · rw [dA, List.append_assoc]; exact hR1
      · rw [dA]; exact hR2
    · have d0 : es.drop (i + 1) = [] := List.drop_of_length_le hout
      refine ⟨sp4, _, i + 1, j, pm ++ [p], pu, ctx, ls4, ?_, ?_, .inr hx⟩
      · rw [d0, sld_nil] at hR1
        rw [d0, List.append_nil]; exact hR1
      · rw [d0, sld_nil] at hR2
        rw [dA]; exact hR2
  | false =>
    rw [if_neg (by decide)]
    -- elif e > a
    refine wpAny_execs_cons (wpAny_If (wpAny_isTrue_Compare1 (ldN ls2.ns me (ldN ls2.ns ma (gt_pair hTe2 hTa2 hu (wpAny_truthy_bool ?_)) sk sk_a) sk sk_e)))
    cases hgt' : plt q p with
    | true =>
      rw [if_pos rfl]
      rw [sld_gt hlt' hgt'] at hR1 hR2
      obtain ⟨uvs, hpu, htu⟩ := ls2.fu
      have lu2 := htu.length
      have ub2 := ls2.ub
      refine wpAny_execs_cons (app_stmt (B := B) (l := lu) (vs := uvs) (pl := _) (ldN ls2.ns ls2.loc.nu ⟨rfl, hpu, ldN ls2.ns ma ⟨hpu, by omega, none_of_stays sd.stays sd.hu, fun sp3 g3 hp3 => ?_⟩ sk sk_a⟩ sk sk_u) (by with_unfolding_all rfl) (by with_unfolding_all rfl) (by with_unfolding_all rfl) (by with_unfolding_all rfl))
      have n3 := g3.ns (by simpa using (ne_ns_plain ls2.ns hpu).symm) ls2.ns
      obtain ⟨tj3, hj3⟩ := ls2.loc.nj
      refine wpAny_execs_cons (inc_stmt (B := B) n3 hj3 bL (fun sp4 t4 g4 hn4 => ?_) sk sk_j)
      have ls4 := ls2.appU sd hpu htu hTa2 g3 hp3 g4 hn4 ls2.loc.setJ (by omega)
      have hlA4 := ls4.go.isList (by simp) sd.hlA
      have tA4 := sd.tA.go ls4.go .nil
      have hTa4 : TupAt sp4.heap va q := by
        obtain ⟨p', hp', hT'⟩ := tA4.get hva
        rw [hq] at hp'; cases hp'; exact hT'
      obtain ⟨tj4, hj4⟩ := ls4.loc.nj
      refine wpAny_execs_cons (skip_while (B := B) (H := s.heap) (k := j + 1) (.inl hA) hu hfr (ls4.frames sd hF) (ls4.stays sd) ls4.above ls4.ns ls4.loc.na hj4 ((upd_ne (by decide)).trans ma) hlA4 tA4 hTa4 sd.okA okq (by omega) (next_ne sd.srA hq) sk sk_ac sk_j sk_a (by decide) (by decide) (by decide) (fun hin => ?_) fun hout x s' ctx _ hx => ?_)
      · refine wpAny_execs_nil (wpAny_execs_nil (wpAny_execs_nil ⟨rfl, _, i, j + 1, pm, pu ++ [q], ls4, ?_, ?_, by omega⟩))
        · rw [dE]; exact hR1
        · rw [dE, List.append_assoc]; exact hR2
      · have d0 : as.drop (j + 1) = [] := List.drop_of_length_le hout
        refine ⟨sp4, _, i, j + 1, pm, pu ++ [q], ctx, ls4, ?_, ?_, .inr hx⟩
        · rw [d0, sld_nil'] at hR1
          rw [dE]; exact hR1
        · rw [d0, sld_nil'] at hR2
          rw [d0, List.append_nil]; exact hR2
    | false =>
      rw [if_neg (by decide)]
      rw [sld_eq hlt' hgt'] at hR1 hR2
      -- i += 1
      obtain ⟨ti3, hi3⟩ := ls2.loc.ni
      refine wpAny_execs_cons (inc_stmt (B := B) ls2.ns hi3 bL (fun sp4 t4 g4 hn4 => ?_) sk sk_i)
      have ls4 := ls2.store sd g4 hn4 ls2.loc.setI (by omega) (Nat.le_refl _) (by omega) jb
      have hlE4 := ls4.go.isList (by simp) sd.hlE
      have tE4 := sd.tE.go ls4.go .nil
      have hTe4 : TupAt sp4.heap ve p := by
        obtain ⟨p', hp', hT'⟩ := tE4.get hve
        rw [hp] at hp'; cases hp'; exact hT'
      obtain ⟨ti4, hi4⟩ := ls4.loc.ni
      have done : ∀ sp5 m5, LS B s L lE lA lm lu es as sp5 m5 (i + 1) (j + 1) pm pu → NP B s L lE lA lm lu es as R (i + j) sp5 := fun sp5 m5 ls5 => ⟨m5, i + 1, j + 1, pm, pu, ls5, hR1, hR2, by omega⟩
      have raised : ∀ sp5 m5 x s' ctx, LS B s L lE lA lm lu es as sp5 m5 (i + 1) (j + 1) pm pu → (es.length ≤ i + 1 ∨ as.length ≤ j + 1) → FlyT B s.heap (rawInt L) ctx sp5 x s' → EP B s L lE lA lm lu es as R x s' := by
        intro sp5 m5 x s' ctx ls5 ho hx
        refine ⟨sp5, m5, i + 1, j + 1, pm, pu, ctx, ls5, ?_, ?_, .inr hx⟩
        · rcases ho with h | h
          · have d0 : es.drop (i + 1) = [] := List.drop_of_length_le h
            rw [d0, sld_nil] at hR1
            rw [d0]; exact hR1
          · have d0 : as.drop (j + 1) = [] := List.drop_of_length_le h
            rw [d0, sld_nil'] at hR1; exact hR1
        · rcases ho with h | h
          · have d0 : es.drop (i + 1) = [] := List.drop_of_length_le h
            rw [d0, sld_nil] at hR2; exact hR2
          · have d0 : as.drop (j + 1) = [] := List.drop_of_length_le h
            rw [d0, sld_nil'] at hR2
            rw [d0]; exact hR2
      have ma4 : upd (upd (upd m (Str.ofString "e") ve) (Str.ofString "a") va) (Str.ofString "i") (.int ((i + 1 : Nat) : Int) t4) (Str.ofString "a") = some va := (upd_ne (by decide)).trans ma
      refine wpAny_execs_cons (wpAny_Try_finally (wpAny_execs_cons (skip_while (B := B) (H := s.heap) (k := i + 1) (.inl hA) hu hfr (ls4.frames sd hF) (ls4.stays sd) ls4.above ls4.ns ls4.loc.ne hi4 ((upd_ne (by decide)).trans me) hlE4 tE4 hTe4 sd.okE okp (by omega) (next_ne sd.srE hp) sk sk_ex sk_i sk_e (by decide) (by decide) (by decide) (fun hin => ?_) fun hout x s' ctx hctx hx => ?_)))
      · -- no exception: the finally suite
        refine wpAny_execs_nil (wpAny_execs_nil ?_)
        refine sld_final (B := B) hu (fun _ _ => .inl hA) hfr hF sd ls4 ma4 hva hq (fun sp5 m5 _ ls5 => ?_) fun sp5 m5 x s' ctx ls5 ho hx => ?_
        · exact wpAny_execs_nil (wpAny_execs_nil (wpAny_execs_nil ⟨rfl, done sp5 m5 ls5⟩))
        · exact fly_noted hfr (ls5.frames sd hF) rfl (ls5.stays sd) ls5.above (.inr hx) fun s2 hx2 => fly_came rfl hx2 fun s3 hx3 => raised sp5 m5 x s3 ctx ls5 (.inr ho) hx3
      · -- an exception: the finally suite, then on
        obtain rfl := hctx hA
        refine fly_note hfr (ls4.frames sd hF) rfl (ls4.stays sd) ls4.above (.inr hx) fun s1 hx1 => ⟨?_, ?_⟩
        · obtain ⟨e1, _, _, rfl, _⟩ := hx1
          exact ref_ne_byPass e1
        refine fly_note hfr (ls4.frames sd hF) rfl (ls4.stays sd) ls4.above (.inr hx1) fun s2 hx2 => ?_
        refine fly_flight (fr := none) hx2 fun s3 hx3 => ?_
        obtain ⟨e1, X, T, rfl, g3, he1, hT1, hX, hx3'⟩ := hx3
        have ls6 := ls4.flown g3 hX
        have hxL : ∀ s', Go B [L] s3 s' → ExcAt s'.heap e1 .none (some (T, .none)) := fun s' g => by
          refine hx3'.go g ?_ ?_
          · intro q
            rw [List.mem_singleton.mp q] at he1
            exact hX.ns ls4.ns he1
          · intro T' fl' q hT'
            cases q
            rw [List.mem_singleton.mp hT'] at hT1
            exact hX.ns ls4.ns hT1
        refine sld_final (B := B) (A := A.mark (some (.ref e1))) hu (fun s' g => .inr ⟨e1, _, rfl, hxL s' g⟩) hfr hF sd ls6 ma4 hva hq (fun sp5 m5 g5 ls5 => ?_) fun sp5 m5 x s' ctx ls5 ho hx => ?_
        · have hx5 := hxL sp5 g5
          have hXs : FldX B s.heap sp5.heap [e1, T] := .cons (hX e1 he1).1 (hX e1 he1).2.1 (.exc hx5) (.one (hX T hT1).1 (hX T hT1).2.1 (.tb hx5))
          exact fly_pass rfl (sp := sp5) (H := s.heap) (B := B) (ctx := .none) ⟨e1, [e1, T], T, rfl, .refl .., .head _, .tail _ (.head _), hXs, hx5⟩ fun s' hx' => raised sp5 m5 _ s' _ ls5 (.inl hout) hx'
        · exact fly_noted (A := A.mark (some (.ref e1))) hfr (ls5.frames sd hF) rfl (ls5.stays sd) ls5.above (.inr hx) fun s2 hx2 => fly_came rfl hx2 fun s3 hx3 => raised sp5 m5 x s3 ctx ls5 (.inl hout) hx3
end
end Mine

namespace Mine

/-- the names of the module and the built-ins -/
structure Gl (B : Heap) (mg mb : Str → Option Value) : Prop where
  g : B.Ns mainGlobals mg
  b : B.Ns builtinsNs mb

section
variable {prog : Program} {w : World} {A : Around} {E : Value → Shared → Prop} {s : Shared} {B : Heap} {qual : Str} {sc : Scope} {L f : Addr} {cd : Value} {mg mb : Str → Option Value} {Q : Value → Shared → Prop}
theorem ldB {x : Str} {pos : Pos} {v : Value} (G : Gl B mg mb) (hS : B.StaysIn s.heap) (h1 : mg x = none) (h2 : mb x = some v) (h : Q v s) (hk : sc.kind = .function) (hx : (envOf qual sc L f cd).kindOf x = some .globalImplicit)
    (hd : (x == ("__debug__" : Str)) = false := by decide) : wpAny (model prog w) A (eval (.Name x pos) (envOf qual sc L f cd)) Q E s :=
  Calls.Name_function_global hk hx (Calls.loadGlobal_builtin (env := envOf qual sc L f cd) (G.g.keeps hS) h1 (G.b.keeps hS) h2 h) hd
end

/-- a pair of two lists -/
def PairAt (h : Heap) (v : Value) (R : List Pr × List Pr) : Prop :=
  ∃ a o n l1 l2, v = .ref a ∧ h.get? a = some o ∧ o.cls = .type "tuple" ∧ o.data = .seq #[.ref l1, .ref l2] n ∧ ListAt h (.ref l1) R.1 ∧ ListAt h (.ref l2) R.2

theorem sub_IE : isSubtype (.type "IndexError") (.type "BaseException") = pure true := isSubtype_of_subB (by decide +kernel)
theorem sub_IE2 : isSubtype (.type "IndexError") (.type "IndexError") = pure true := isSubtype_of_subB (by decide +kernel)
theorem sub_IE3 : isSubtype (.type ((Manifest.find? "IndexError").elim "type" fun x => x.metatype)) (.type "tuple") = pure false := isSubtype_of_subB (by decide +kernel)

def tryHs : Stmt → List ExceptHandler
  | .Try _ h _ _ _ => h
  | _ => []

section
variable {prog : Program} {w : World} {A : Around} {B : Heap} {s : Shared} {L lE lA lm lu f : Addr} {cd : Value} {evs avs : List Value} {es as : List Pr} {outer : List Env} {R : List Pr × List Pr} {mg mb : Str → Option Value}

def FinSt (B : Heap) (s : Shared) (L lm lu : Addr) (R : List Pr × List Pr) (s' : Shared) : Prop :=
  Go B [] s s' ∧ ∃ m, s'.heap.Ns L m ∧ m (Str.ofString "missing") = some (.ref lm) ∧ m (Str.ofString "unexpected") = some (.ref lu) ∧
    (∃ mvs : List Value, s'.heap.PlainList lm mvs.toArray ∧ TupsAt s'.heap mvs R.1) ∧ ∃ uvs : List Value, s'.heap.PlainList lu uvs.toArray ∧ TupsAt s'.heap uvs R.2

theorem sk_IE : (sldEnv L f cd).kindOf (Str.ofString "IndexError") = some .globalImplicit := by with_unfolding_all rfl

theorem sld_handler {E : Value → Shared → Prop} {x : Value} {s' : Shared} (G : Gl B mg mb) (g1 : mg (Str.ofString "IndexError") = none) (g2 : mb (Str.ofString "IndexError") = some (.type "IndexError")) (hfr : A.frames = some (sldEnv L f cd :: outer)) (hF : FrOK B s.heap outer)
    (sd : SD B s L lE lA lm lu evs avs es as) (hx : EP B s L lE lA lm lu es as R x s') {Q : Flow → Shared → Prop} (h : ∀ s'', FinSt B s L lm lu R s'' → Q .brk s'') :
    wpAny (model prog w) A (noteFrame x (sldEnv L f cd)) (fun _ s₂ => wpAny (model prog w) A (setFlight x none) (fun _ s₃ => wpAny (model prog w) A (handleBy x (sldEnv L f cd) (tryHs sldTry)) Q E s₃) E s₂) E s' := by
  obtain ⟨sp, m, i, j, pm, pu, ctx, ls, hR1, hR2, hx⟩ := hx
  refine fly_note hfr (ls.frames sd hF) rfl (ls.stays sd) ls.above hx fun s1 hx1 => ?_
  refine fly_flight (fr := none) hx1 fun s2 hx2 => ?_
  obtain ⟨e, X, T, rfl, g, he, hT, hX, hx2'⟩ := id hx2
  have ls2 := ls.flown g hX
  refine wpAny_handleBy_builtin (X := "IndexError") (T := "IndexError") (b := true) sub_IE sub_IE3 sub_IE2 ?_
  refine ldB G (ls2.stays sd) g1 g2 ⟨rfl, ?_, ?_⟩ sk sk_IE
  · obtain ⟨ob, vs, ho, hc, _⟩ := hx2'
    exact ⟨ob, ho, hc⟩
  rw [if_pos rfl]
  refine fly_flight (fr := none) hx2 fun s3 hx3 => ?_
  obtain ⟨e', X', T', hee, g3, he', hT', hX', hx3'⟩ := id hx3
  have ls3 := ls.flown g3 hX'
  have nE := sd.nE
  have nA := sd.nA
  have lenE := sd.tE.length
  have lenA := sd.tA.length
  have ib := ls.ib
  have jb := ls.jb
  have mb3 := ls.mb
  have ub3 := ls.ub
  obtain ⟨mvs, hpm, htm⟩ := ls3.fm
  obtain ⟨uvs, hpu, htu⟩ := ls3.fu
  have lm3 := htm.length
  have lu3 := htu.length
  obtain ⟨ti, hi⟩ := ls3.loc.ni
  obtain ⟨tj, hj⟩ := ls3.loc.nj
  -- missing.extend(expected[i:])
  refine wpAny_execs_cons (ext_stmt (B := B) (l := lm) (vs := mvs) (pl := _) (ldN ls3.ns ls3.loc.nm ⟨rfl, hpm, ev_from (B := B) (ldN ls3.ns ls3.loc.ne (ldN ls3.ns hi ⟨lE, evs, i, ti, rfl, ls3.go.isList (by simp) sd.hlE, by omega, rfl, by omega, fun s4 b g4 hb hpb => ?_⟩ sk sk_i) sk sk_ex) (by intro _ _; with_unfolding_all rfl)⟩ sk sk_m) (by with_unfolding_all rfl) (by with_unfolding_all rfl) (by with_unfolding_all rfl) (by with_unfolding_all rfl))
  have hpm4 := g4.plain (by simp) hpm
  have hpu4 := g4.plain (by simp) hpu
  have n4 := g4.ns (by simp) ls3.ns
  refine ⟨b, _, rfl, hpb, by simp only [List.length_drop]; omega, hpm4, by omega, none_of_stays sd.stays sd.hm, fun s5 g5 hp5 => ?_⟩
  have n5 := g5.ns (by simpa using (ne_ns_plain n4 hpm4).symm) n4
  have hpu5 := g5.plain (by simpa using sd.mu.symm) hpu4
  have go5 : Go B [] s s5 := (ls3.go.trans g4).drop1 g5 sd.hm
  -- unexpected.extend(actual[j:])
  refine wpAny_execs_cons (ext_stmt (B := B) (l := lu) (vs := uvs) (pl := _) (ldN n5 ls3.loc.nu ⟨rfl, hpu5, ev_from (B := B) (ldN n5 ls3.loc.na (ldN n5 hj ⟨lA, avs, j, tj, rfl, go5.isList (by simp) sd.hlA, by omega, rfl, by omega, fun s6 b' g6 hb' hpb' => ?_⟩ sk sk_j) sk sk_ac) (by intro _ _; with_unfolding_all rfl)⟩ sk sk_u) (by with_unfolding_all rfl) (by with_unfolding_all rfl) (by with_unfolding_all rfl) (by with_unfolding_all rfl))
  have hpm6 := g6.plain (by simp) hp5
  have hpu6 := g6.plain (by simp) hpu5
  have n6 := g6.ns (by simp) n5
  refine ⟨b', _, rfl, hpb', by simp only [List.length_drop]; omega, hpu6, by omega, none_of_stays sd.stays sd.hu, fun s7 g7 hp7 => ?_⟩
  have go7 : Go B [] s s7 := (go5.trans g6).drop1 g7 sd.hu
  refine wpAny_execs_cons (wpAny_Break (h s7 ⟨go7, m, g7.ns (by simpa using (ne_ns_plain n6 hpu6).symm) n6, ls3.loc.nm, ls3.loc.nu, ⟨_, g7.plain (by simpa using sd.mu) hpm6, ?_⟩, ⟨_, hp7, ?_⟩⟩))
  · rw [← hR1]
    refine .append ?_ ((sd.tE.go go7 .nil).drop i)
    exact (((htm.go g4 .nil).go g5 (NoTup.list hpm4.isList)).go g6 .nil).go g7 (NoTup.list hpu6.isList)
  · rw [← hR2]
    refine .append ?_ ((sd.tA.go go7 .nil).drop j)
    exact (((htu.go g4 .nil).go g5 (NoTup.list hpm4.isList)).go g6 .nil).go g7 (NoTup.list hpu6.isList)
end
end Mine

namespace Mine

section
variable {prog : Program} {w : World} {A : Around} {E : Value → Shared → Prop} {B : Heap} {s : Shared} {lE lA f : Addr} {cd : Value} {evs avs : List Value} {es as : List Pr} {outer : List Env} {mg mb : Str → Option Value} {Q : Value → Shared → Prop}

/-- [] -/
theorem ev_nil {A : Around} {E : Value → Shared → Prop} {s : Shared} {env : Env} {pos : Pos} {Q : Value → Shared → Prop} (h : ∀ l s', s.heap.get? l = none → Go B [] s s' → s'.heap.PlainList l #[] → Q (.ref l) s') : wpAny (model prog w) A (eval (.List [] pos) env) Q E s := by
  refine wpAny_List_spliced (spliced_none ⟨Nat.zero_le _, ?_⟩)
  exact h _ _ (Heap.get?_none_of_le (Nat.le_refl _)) (Go.push (s := s) (tk := s.toks) _) ⟨0, Heap.get?_push_size _ rfl⟩

theorem sld_call (X : FnAt B f (Str.ofString "sorted_list_difference") sldS cd) (hS : B.StaysIn s.heap) (hlim : B.NoLimit) (hroom : A.depth < recursionLimit) (hu : A.units + 80 < cLine) (hA : A.handled = none) (hfr : A.frames = some outer) (hF : FrOK B s.heap outer)
    (G : Gl B mg mb) (g1 : mg (Str.ofString "IndexError") = none) (g2 : mb (Str.ofString "IndexError") = some (.type "IndexError"))
    (hlE : s.heap.IsList lE evs.toArray) (hlA : s.heap.IsList lA avs.toArray) (tE : TupsAt s.heap evs es) (tA : TupsAt s.heap avs as) (okE : ∀ p ∈ es, Okp p) (okA : ∀ p ∈ as, Okp p)
    (srE : es.Pairwise fun p q => plt p q = true) (srA : as.Pairwise fun p q => plt p q = true) (nE : es.length < 400) (nA : as.length < 400)
    (h : ∀ s' v, Go B [] s s' → PairAt s'.heap v (sld es as) → Q v s') :
    wpAny (model prog w) A (call (.ref f) [.ref lE, .ref lA]) Q E s := by
  refine call_fn X hS hlim hroom (binds := [(Str.ofString "expected", .ref lE), (Str.ofString "actual", .ref lA)]) (fun _ _ _ _ _ => by with_unfolding_all rfl) (by decide) (by
    intro z hz
    rcases List.mem_cons.mp hz with rfl | hz
    · with_unfolding_all rfl
    · rw [List.mem_singleton.mp hz]; with_unfolding_all rfl) (by with_unfolding_all rfl) (by with_unfolding_all rfl) (by with_unfolding_all rfl) fun s₁ L hL g hns hBL => ?_
  have hu' : (A.deeper (sldEnv L f cd)).units + 64 < cLine := by simp only [Around.deeper_units]; omega
  have hfr' : (A.deeper (sldEnv L f cd)).frames = some (sldEnv L f cd :: outer) := Around.frames_deeper hfr
  have hA' : (A.deeper (sldEnv L f cd)).handled = none := hA
  -- i = j = 0
  refine wpAny_execs_cons (wpAny_Assign_two (wpAny_Constant_int (wpAny_assign_Name (stN (B := B) hns hBL (fun s₂ g₂ n₂ => wpAny_assign_Name (stN (B := B) n₂ hBL (fun s₃ g₃ n₃ => ?_) sk sk_j)) sk sk_i))) (by with_unfolding_all rfl) (by with_unfolding_all rfl))
  have go3 : Go B [] s s₃ := ((g.trans Go.toks).drop1 g₂ hL).drop1 g₃ hL
  -- missing = []
  refine wpAny_execs_cons (wpAny_Assign_Name (ev_nil (B := B) fun lm s₄ hm₄ g₄ hp₄ => stN (B := B) (g₄.ns (by simp) n₃) hBL (fun s₅ g₅ n₅ => ?_) sk sk_m))
  have go5 : Go B [] s s₅ := (go3.trans g₄).drop1 g₅ hL
  have hp5 := g₅.plain (by simpa using ne_ns_plain (g₄.ns (by simp) n₃) hp₄) hp₄
  -- unexpected = []
  refine wpAny_execs_cons (wpAny_Assign_Name (ev_nil (B := B) fun lu s₆ hm₆ g₆ hp₆ => stN (B := B) (g₆.ns (by simp) n₅) hBL (fun s₇ g₇ n₇ => ?_) sk sk_u))
  have go7 : Go B [] s s₇ := (go5.trans g₆).drop1 g₇ hL
  have hp6 := g₆.plain (by simp) hp5
  have mu : lm ≠ lu := by
    rintro rfl
    obtain ⟨n, e⟩ := hp5
    rw [hm₆] at e; cases e
  have n6 := g₆.ns (by simp) n₅
  have hp7 := g₇.plain (by simpa using ne_ns_plain n6 hp6) hp6
  have hq7 := g₇.plain (by simpa using ne_ns_plain n6 hp₆) hp₆
  have none_of : ∀ {a : Addr} {sx : Shared}, Go B [] s sx → sx.heap.get? a = none → s.heap.get? a = none := fun {a sx} gx hn => by
    cases q : s.heap.get? a with
    | none => rfl
    | some o =>
      obtain ⟨o', e, _⟩ := gx.ext a o (by simp) q
      rw [hn] at e; cases e
  have sd : SD B s L lE lA lm lu evs avs es as := ⟨hS, hL, none_of go3 hm₄, none_of go5 hm₆, mu, hlE, hlA, tE, tA, okE, okA, srE, srA, nE, nA⟩
  have ls0 : ∃ m, LS B s L lE lA lm lu es as s₇ m 0 0 [] [] := by
    refine ⟨_, go7, n₇, ⟨?_, ?_, ⟨s₁.toks, ?_⟩, ⟨s₁.toks, ?_⟩, ?_, ?_⟩, ⟨[], hp7, trivial⟩, ⟨[], hq7, trivial⟩, Nat.zero_le _, Nat.zero_le _, Nat.le_refl _, Nat.le_refl _⟩ <;> with_unfolding_all rfl
  obtain ⟨m0, ls0⟩ := ls0
  -- while True
  refine wpAny_execs_cons (wpAny_While (codeAny_whileLoop (fun n s' => ∃ m i j pm pu, LS B s L lE lA lm lu es as s' m i j pm pu ∧ pm ++ (sld (es.drop i) (as.drop j)).1 = (sld es as).1 ∧ pu ++ (sld (es.drop i) (as.drop j)).2 = (sld es as).2 ∧ n = es.length + as.length - (i + j)) ?_ _ ⟨m0, 0, 0, [], [], ls0, by simp, by simp, rfl⟩))
  rintro n sp ⟨m, i, j, pm, pu, ls, hR1, hR2, rfl⟩
  refine wpAny_isTrue_value (wpAny_Constant_bool (wpAny_truthy_bool ?_))
  rw [if_pos rfl]
  refine wpAny_execs_cons (wpAny_Try_except (wpAny_mono (sld_turn (R := sld es as) hu' hA' hfr' hF sd ls hR1 hR2) (fun fl s' hq => ?_) fun x s' hx => ?_))
  · obtain ⟨rfl, m', i', j', pm', pu', ls', h1, h2, hk⟩ := hq
    refine wpAny_execs_nil (wpAny_execs_nil ⟨_, ?_, m', i', j', pm', pu', ls', h1, h2, rfl⟩)
    have := ls.ib
    have := ls.jb
    have := ls'.ib
    have := ls'.jb
    omega
  · refine sld_handler (B := B) G g1 g2 hfr' hF sd hx fun s'' hf => ?_
    obtain ⟨gF, m', n', e1, e2, ⟨mvs, p1, t1⟩, ⟨uvs, p2, t2⟩⟩ := hf
    -- return (missing, unexpected)
    refine wpAny_execs_cons (wpAny_Return_some (wpAny_Tuple_spliced (spliced_more (ldN n' e1 (spliced_more (ldN n' e2 (spliced_none ⟨by show 2 ≤ sizeLine; rw [sizeLine_eq]; omega, ?_⟩) sk sk_u) (by with_unfolding_all rfl)) sk sk_m) (by with_unfolding_all rfl))))
    have gp : Go B [] s'' { s'' with heap := s''.heap.push { cls := .type "tuple", data := .seq [Value.ref lm, Value.ref lu].toArray } } := Go.push (s := s'') (tk := s''.toks) _
    refine h _ _ (gF.trans gp) ⟨_, _, _, lm, lu, rfl, Heap.get?_push_size _ rfl, rfl, rfl, ⟨lm, mvs, rfl, (gp.plain (by simp) p1).isList, t1.go gp .nil⟩, ⟨lu, uvs, rfl, (gp.plain (by simp) p2).isList, t2.go gp .nil⟩⟩
end
end Mine

namespace Mine

section
variable {prog : Program} {w : World} {A : Around} {E : Value → Shared → Prop} {s : Shared} {B : Heap} {env : Env}

/-- for target in (a list): body -/
theorem for_list {target : PySem.Expr} {body : List Stmt} {Q : Flow → Shared → Prop} {l : Addr} {vs : List Value} (X : List Addr) (K : Nat → Shared → Prop)
    (hA : A.handled = none) (hS : B.StaysIn s.heap) (hl : s.heap.IsList l vs.toArray) (hlX : l ∉ X) (hX : ∀ x ∈ X, s.heap.get? x ≠ none)
    (hK : ∀ i s1 s2 a, K i s1 → Go B [a] s1 s2 → Fld s1.heap a → K i s2) (h0 : K 0 s)
    (hown : ∀ it s' i v (Q' : Unit → Shared → Prop) (E' : Value → Shared → Prop), s'.heap.IsListIter it l i → v ∈ vs → Q' () s' → wpAny (model prog w) A (letOwnedTupleGo target (.ref it) v) Q' E' s')
    (turn : ∀ i v s1, vs[i]? = some v → Go B X s s1 → K i s1 → wpAny (model prog w) A (assign target env v) (fun _ s2 => wpAny (model prog w) A (execs body env) (fun f s3 => match f with
      | .next | .cont => Go B X s1 s3 ∧ K (i + 1) s3
      | .brk => Q .next s3
      | .ret v => Q (.ret v) s3) (fun _ _ => False) s2) (fun _ _ => False) s1)
    (done : ∀ s1, Go B X s s1 → K vs.length s1 → Q .next s1) :
    wpAny (model prog w) A (pyIter (.ref l)) (fun it s2 => codeAny (model prog w) A (.forLoop target it body [] env) (fun r s' => match r with | .ok f => Q f s' | .error e => cameBackBy (model prog w) A env E e s') s2) E s := by
  refine wpAny_pyIter_list hl ?_
  have hn : s.heap.get? s.heap.objs.size = none := Heap.get?_none_of_le (Nat.le_refl _)
  have hB := none_of_stays hS hn
  have hitX : s.heap.objs.size ∉ X := fun q => hX _ q hn
  have g0 : Go B [] s { s with heap := s.heap.push { cls := .type "list_iterator", data := .fields #[.ref l, .int 0 0] } } := Go.push (s := s) (tk := s.toks) _
  have k0 := hK 0 s _ s.heap.objs.size h0 (g0.nil) (.none hn)
  refine codeAny_forLoop_any (fun n s' => ∃ i, n = vs.length - i ∧ i ≤ vs.length ∧ Go B X s s' ∧ K i s' ∧ s'.heap.IsListIter s.heap.objs.size l i) ?_ (vs.length - 0) ⟨0, rfl, Nat.zero_le _, g0.nil, k0, ⟨_, Heap.get?_push_size _ rfl, rfl, rfl⟩⟩
  rintro n s' ⟨i, rfl, hi, g, k, hit⟩
  have hfld : Fld s'.heap s.heap.objs.size := fun o e => by
    obtain ⟨o', e', _, hd⟩ := hit
    rw [e'] at e; cases e; exact ⟨_, hd⟩
  have hl' := g.isList hlX hl
  by_cases hlt : i < vs.length
  · have hx : vs.toArray[i]? = some vs[i] := by simp [hlt]
    refine wpAny_pyNext_list_item hit hl' hx fun h' hit' hsb => ?_
    have g2 : Go B [s.heap.objs.size] s' { s' with heap := h' } := Go.but (tk := s'.toks) (fun b o hb e => (hsb.2 b hb).trans e) hB
    have g3 : Go B X s { s' with heap := h' } := g.drop1 g2 hn
    have k3 := hK i s' _ _ k g2 hfld
    refine hown _ _ (i + 1) _ _ _ hit' (List.getElem_mem hlt) ?_
    refine wpAny_mono (turn i vs[i] _ (List.getElem?_eq_getElem hlt) g3 k3) (fun _ s2 h2 => wpAny_mono h2 (fun f s3 h3 => ?_) fun _ _ x => x.elim) fun _ _ x => x.elim
    cases f with
    | next => exact ⟨vs.length - (i + 1), by omega, i + 1, rfl, hlt, g3.trans h3.1, h3.2, h3.1.listIter hitX hit'⟩
    | cont => exact ⟨vs.length - (i + 1), by omega, i + 1, rfl, hlt, g3.trans h3.1, h3.2, h3.1.listIter hitX hit'⟩
    | brk => exact h3
    | ret v => exact h3
  · have hieq : i = vs.length := by omega
    have hx : vs.toArray[i]? = none := by simp [hieq]
    refine wpAny_pyNext_list_end hA hit hl' hx fun h' hext => ?_
    have g2 : Go B [s.heap.objs.size] s' { s' with heap := h' } := Go.but (tk := s'.toks) hext hB
    have k3 := hK i s' _ _ k g2 hfld
    rw [hieq] at k3
    exact wpAny_execs_nil (done _ (g.drop1 g2 hn) k3)

theorem own_name {l : Addr} {vs : List Value} {x : Str} {pos : Pos} : ∀ it s' i v (Q' : Unit → Shared → Prop) (E' : Value → Shared → Prop), s'.heap.IsListIter it l i → v ∈ vs → Q' () s' → wpAny (model prog w) A (letOwnedTupleGo (.Name x pos) (.ref it) v) Q' E' s' :=
  fun _ _ _ _ _ _ _ _ h => wpAny_pure h
theorem own_tuple {l : Addr} {vs : List Value} {h : Heap} {ps : List Pr} {elts : List PySem.Expr} {c : Nat} {pos : Pos} (hT : TupsAt h vs ps) : ∀ it s' i v (Q' : Unit → Shared → Prop) (E' : Value → Shared → Prop), s'.heap.IsListIter it l i → v ∈ vs → Q' () s' → wpAny (model prog w) A (letOwnedTupleGo (.Tuple elts c pos) (.ref it) v) Q' E' s' :=
  fun it s' i v Q' E' hit hv h => by
    obtain ⟨k, hk⟩ := List.mem_iff_getElem?.mp hv
    obtain ⟨p, _, a, _, _, _, _, rfl, _⟩ := hT.get hk
    exact wpAny_letOwnedTupleGo_listiter hit h

/-- (x, y): a new pair -/
theorem ev_pair {e1 e2 : PySem.Expr} {c : Nat} {pos : Pos} {Q : Value → Shared → Prop}
    (h : wpAny (model prog w) A (eval e1 env) (fun v1 s1 => wpAny (model prog w) A (eval e2 env) (fun v2 s2 => ∃ x t y u, v1 = .str x t ∧ v2 = .str y u ∧ ∀ s3 v, Go B [] s2 s3 → TupAt s3.heap v (x, y) → Q v s3) E s1) E s)
    (h1 : starEach [e1, e2] env = (false, eval e1 env) :: starEach [e2] env) (h2 : starEach [e2] env = (false, eval e2 env) :: starEach [] env) :
    wpAny (model prog w) A (eval (.Tuple [e1, e2] c pos) env) Q E s := by
  refine wpAny_Tuple_spliced (spliced_more (wpAny_mono h (fun v1 s1 h1' => spliced_more (wpAny_mono h1' (fun v2 s2 h2' => spliced_none ⟨by show 2 ≤ sizeLine; rw [sizeLine_eq]; omega, ?_⟩) fun _ _ x => x) h2) fun _ _ x => x) h1)
  obtain ⟨x, t, y, u, rfl, rfl, hq⟩ := h2'
  exact hq _ _ (Go.push (s := s2) (tk := s2.toks) _) ⟨_, _, 0, t, u, rfl, Heap.get?_push_size _ rfl, rfl, rfl⟩

/-- a, b = (a pair) -/
theorem as_pair {t1 t2 : PySem.Expr} {c : Nat} {pos : Pos} {v : Value} {p : Pr} {Q : Unit → Shared → Prop} (hA : A.handled = none) (hS : B.StaysIn s.heap) (hv : TupAt s.heap v p)
    (h : ∀ s1 t u, Go B [] s s1 → wpAny (model prog w) A (assign t1 env (.str p.1 t)) (fun _ s2 => wpAny (model prog w) A (assign t2 env (.str p.2 u)) Q E s2) E s1)
    (he : assignEach [t1, t2] env = [(false, assign t1 env), (false, assign t2 env)]) :
    wpAny (model prog w) A (assign (.Tuple [t1, t2] c pos) env v) Q E s := by
  obtain ⟨a, o, n, t, u, rfl, e, hc, hd⟩ := hv
  have hn : s.heap.get? s.heap.objs.size = none := Heap.get?_none_of_le (Nat.le_refl _)
  refine wpAny_assign_Tuple (items := #[.str p.1 t, .str p.2 u]) hA ⟨o, e, hc, n, hd⟩ (by rw [he]; rfl) (by rw [he]; rfl) fun h' hext => ?_
  rw [he]
  refine wpAny_assignInOrder_more (wpAny_mono (h _ t u ?_) (fun _ s2 h2 => wpAny_assignInOrder_more (wpAny_mono h2 (fun _ s3 h3 => wpAny_assignInOrder_none h3) fun _ _ x => x)) fun _ _ x => x)
  exact (Go.refl B [] s).fresh hn (none_of_stays hS hn) (tk := s.toks) hext
end
end Mine

namespace Mine

/-! the sort's tree of questions, run -/
def runK {α : Type} (lt : Nat → Nat → Bool) : KasT α → α
  | .ret a => a
  | .ask i j k => runK lt (k (lt i j))
theorem runK_bind {α β : Type} {lt : Nat → Nat → Bool} {f : α → KasT β} : ∀ t : KasT α, runK lt (t.bind f) = runK lt (f (runK lt t))
  | .ret _ => rfl
  | .ask i j k => by
    show runK lt ((k (lt i j)).bind f) = runK lt (f (runK lt (k (lt i j))))
    exact runK_bind (k (lt i j))
/-- every question is about places below N; P of every answer -/
def okW {α : Type} (N : Nat) (P : α → Prop) : KasT α → Prop
  | .ret a => P a
  | .ask i j k => i < N ∧ j < N ∧ ∀ b, okW N P (k b)
theorem okW_bind {α β : Type} {N : Nat} {P : β → Prop} {f : α → KasT β} : ∀ t : KasT α, okW N (fun a => okW N P (f a)) t → okW N P (t.bind f)
  | .ret _, h => h
  | .ask _ _ k, ⟨h1, h2, h3⟩ => ⟨h1, h2, fun b => okW_bind (k b) (h3 b)⟩
theorem okW_mono {α : Type} {N : Nat} {P P' : α → Prop} (hp : ∀ a, P a → P' a) : ∀ t : KasT α, okW N P t → okW N P' t
  | .ret a, h => hp a h
  | .ask _ _ k, ⟨h1, h2, h3⟩ => ⟨h1, h2, fun b => okW_mono hp (k b) (h3 b)⟩
theorem kasWp_run {α : Type} {N : Nat} {P : α → Prop} {lt : Nat → Nat → Bool} {cmp : Nat → Nat → (Bool → Shared → Prop) → Shared → Prop} {Q : α → Shared → Prop} {s : Shared} (hc : ∀ i j C, i < N → j < N → C (lt i j) s → cmp i j C s) : ∀ t : KasT α, okW N P t → Q (runK lt t) s → t.kasWp cmp Q s
  | .ret _, _, h => h
  | .ask i j k, ⟨h1, h2, h3⟩, h => hc i j _ h1 h2 (kasWp_run hc (k (lt i j)) (h3 _) h)

structure Ord (N : Nat) (lt : Nat → Nat → Bool) : Prop where
  trans : ∀ a b c, lt a b = true → lt b c = true → lt a c = true
  tot : ∀ a b, a < N → b < N → a ≠ b → lt a b = false → lt b a = true

abbrev at0 (p : Array Nat) (k : Nat) : Nat := p.getD k 0
def Inv (N : Nat) (p : Array Nat) : Prop := p.toList.Perm (List.range N)
def Srt (lt : Nat → Nat → Bool) (p : Array Nat) (k : Nat) : Prop := ∀ a b, a < b → b < k → lt (at0 p a) (at0 p b) = true
def SrtD (lt : Nat → Nat → Bool) (p : Array Nat) (k : Nat) : Prop := ∀ a b, a < b → b < k → lt (at0 p b) (at0 p a) = true

section
variable {N : Nat} {lt : Nat → Nat → Bool} {p : Array Nat}
theorem Inv.size (h : Inv N p) : p.size = N := by
  have := h.length_eq
  simpa using this
theorem at0_eq {k : Nat} (h : k < p.size) : at0 p k = p[k] := by simp [at0, Array.getD, h]
theorem at0_some {k : Nat} {x : Nat} (h : p[k]? = some x) : at0 p k = x := by
  obtain ⟨h1, rfl⟩ := Array.getElem?_eq_some_iff.mp h
  exact at0_eq h1
theorem at0_congr {q : Array Nat} {k j : Nat} (h : p[k]? = q[j]?) : at0 p k = at0 q j := by
  unfold at0
  rw [Array.getD_eq_getD_getElem?, Array.getD_eq_getD_getElem?, h]
theorem Inv.bnd (h : Inv N p) {k : Nat} (hk : k < N) : at0 p k < N := by
  have hs := h.size
  rw [at0_eq (by omega)]
  have : p[k] ∈ p.toList := by simp
  exact List.mem_range.mp (h.mem_iff.mp this)
theorem Inv.ne (h : Inv N p) {a b : Nat} (ha : a < N) (hb : b < N) (hab : a ≠ b) : at0 p a ≠ at0 p b := by
  have hs := h.size
  rw [at0_eq (by omega), at0_eq (by omega)]
  have hnd : p.toList.Nodup := h.symm.nodup List.nodup_range
  intro e
  have hp := List.pairwise_iff_getElem.mp hnd
  rcases Nat.lt_or_gt_of_ne hab with h1 | h1
  · exact hp a b (by simpa using (by omega : a < p.size)) (by simpa using (by omega : b < p.size)) h1 (by simpa using e)
  · exact hp b a (by simpa using (by omega : b < p.size)) (by simpa using (by omega : a < p.size)) h1 (by simpa using e.symm)
theorem Srt.snoc (O : Ord N lt) {n : Nat} (hn : 1 ≤ n) (h : Srt lt p n) (h1 : lt (at0 p (n - 1)) (at0 p n) = true) : Srt lt p (n + 1) := by
  intro a b hab hb
  by_cases e : b = n
  · subst e
    by_cases e2 : a = b - 1
    · rw [e2]; exact h1
    · exact O.trans _ _ _ (h a (b - 1) (by omega) (by omega)) h1
  · exact h a b hab (by omega)
theorem SrtD.snoc (O : Ord N lt) {n : Nat} (hn : 1 ≤ n) (h : SrtD lt p n) (h1 : lt (at0 p n) (at0 p (n - 1)) = true) : SrtD lt p (n + 1) := by
  intro a b hab hb
  by_cases e : b = n
  · subst e
    by_cases e2 : a = b - 1
    · rw [e2]; exact h1
    · exact O.trans _ _ _ h1 (h a (b - 1) (by omega) (by omega))
  · exact h a b hab (by omega)

theorem asc_spec (O : Ord N lt) (hI : Inv N p) : ∀ f n, 1 ≤ n → n + f ≤ N → Srt lt p n → n ≤ runK lt (kas_asc p f n) ∧ runK lt (kas_asc p f n) ≤ n + f ∧ Srt lt p (runK lt (kas_asc p f n)) ∧ (runK lt (kas_asc p f n) < n + f → lt (at0 p (runK lt (kas_asc p f n))) (at0 p (runK lt (kas_asc p f n) - 1)) = true)
  | 0, n, _, _, hs => ⟨Nat.le_refl _, Nat.le_refl _, hs, fun h => absurd h (Nat.lt_irrefl _)⟩
  | f + 1, n, h1, hN, hs => by
    simp only [kas_asc, runK]
    cases hc : lt (p.getD n 0) (p.getD (n - 1) 0) with
    | true => exact ⟨Nat.le_refl _, by simp [runK], by simpa [runK] using hs, fun _ => by simpa [runK] using hc⟩
    | false =>
      simp only [Bool.false_eq_true, if_false]
      have h2 := O.tot _ _ (hI.bnd (k := n) (by omega)) (hI.bnd (k := n - 1) (by omega)) (hI.ne (by omega) (by omega) (by omega)) hc
      obtain ⟨r1, r2, r3, r4⟩ := asc_spec O hI f (n + 1) (by omega) (by omega) (hs.snoc O h1 h2)
      exact ⟨by omega, by omega, r3, fun h => r4 (by omega)⟩
theorem desc_spec (O : Ord N lt) (hI : Inv N p) : ∀ f n, 1 ≤ n → n + f ≤ N → SrtD lt p n → ∃ m, runK lt (kas_desc f p n 0) = (p, m, 0) ∧ n ≤ m ∧ m ≤ n + f ∧ SrtD lt p m
  | 0, n, _, _, hs => ⟨n, rfl, Nat.le_refl _, Nat.le_refl _, hs⟩
  | f + 1, n, h1, hN, hs => by
    simp only [kas_desc, runK]
    cases hc : lt (p.getD n 0) (p.getD (n - 1) 0) with
    | true =>
      simp only [if_true, Nat.lt_irrefl, if_false, gt_iff_lt]
      obtain ⟨m, r1, r2, r3, r4⟩ := desc_spec O hI f (n + 1) (by omega) (by omega) (hs.snoc O h1 hc)
      exact ⟨m, r1, by omega, by omega, r4⟩
    | false =>
      simp only [Bool.false_eq_true, if_false, runK]
      have h2 := O.tot _ _ (hI.bnd (k := n) (by omega)) (hI.bnd (k := n - 1) (by omega)) (hI.ne (by omega) (by omega) (by omega)) hc
      have h2' : lt (p.getD (n - 1) 0) (p.getD n 0) = true := h2
      rw [h2']
      exact ⟨n, rfl, Nat.le_refl _, by omega, hs⟩
theorem Inv.rev (hI : Inv N p) (i j : Nat) : Inv N (kas_rev p i j) := (Array.perm_iff_toList_perm.mp (mirror_perm p i j _)).trans hI
theorem Inv.bubble (hI : Inv N p) (i j : Nat) : Inv N (PyProof.Rows.bubble p i j) := (Array.perm_iff_toList_perm.mp (bubble_perm p i j)).trans hI
theorem rev_srt (hI : Inv N p) {n : Nat} (hn : n ≤ N) (h : SrtD lt p n) : Srt lt (kas_rev p 0 n) n := by
  intro a b hab hb
  have hs := hI.size
  have ea : at0 (kas_rev p 0 n) a = at0 p (n - 1 - a) := by
    refine at0_congr ?_
    unfold kas_rev
    rw [getElem?_mirror_all (by omega), if_pos (by omega)]
    congr 1; omega
  have eb : at0 (kas_rev p 0 n) b = at0 p (n - 1 - b) := by
    refine at0_congr ?_
    unfold kas_rev
    rw [getElem?_mirror_all (by omega), if_pos (by omega)]
    congr 1; omega
  rw [ea, eb]
  exact h _ _ (by omega) (by omega)

theorem count_spec (O : Ord N lt) (hI : Inv N p) (hN : 2 ≤ N) : ∃ m q, runK lt (kas_count N p) = (m, q) ∧ Inv N q ∧ 1 ≤ m ∧ m ≤ N ∧ Srt lt q m := by
  obtain ⟨a1, a2, a3, a4⟩ := asc_spec O hI (N - 1) 1 (Nat.le_refl _) (by omega) (fun a b h1 h2 => by omega)
  unfold kas_count
  rw [runK_bind]
  generalize runK lt (kas_asc p (N - 1) 1) = n at a1 a2 a3 a4
  by_cases h1 : n = N
  · rw [if_pos (by simpa using h1)]
    exact ⟨n, p, rfl, hI, a1, by omega, a3⟩
  rw [if_neg (by simpa using h1)]
  by_cases h2 : n > 1
  · rw [if_pos h2]
    have hc : lt (p.getD 0 0) (p.getD (n - 1) 0) = true := a3 0 (n - 1) (by omega) (by omega)
    simp only [runK, hc, if_true]
    exact ⟨n, p, rfl, hI, a1, by omega, a3⟩
  · rw [if_neg h2]
    have hn1 : n = 1 := by omega
    subst hn1
    unfold kas_descPart
    rw [runK_bind]
    have hlt : lt (at0 p 1) (at0 p 0) = true := a4 (by omega)
    · obtain ⟨m, r1, r2, r3, r4⟩ := desc_spec O hI (N - (1 + 1)) (1 + 1) (by omega) (by omega) (fun a b h1 h2 => by
        have ha : a = 0 := by omega
        have hb : b = 1 := by omega
        subst ha hb; exact hlt)
      rw [r1]
      simp only [Nat.lt_irrefl, if_false, gt_iff_lt]
      unfold kas_tail3
      rw [runK_bind]
      obtain ⟨b1, b2, b3, _⟩ := asc_spec O (hI.rev 0 m) (N - m) m (by omega) (by omega) (rev_srt hI (by omega) r4)
      exact ⟨_, _, rfl, hI.rev 0 m, by omega, by omega, b3⟩

theorem place_spec (O : Ord N lt) (hI : Inv N p) {k : Nat} (hk : k < N) (hs : Srt lt p k) : ∀ f l r, l ≤ r → r ≤ k → r - l ≤ f → (∀ a, a < l → lt (at0 p a) (at0 p k) = true) → (∀ a, r ≤ a → a < k → lt (at0 p k) (at0 p a) = true) →
    runK lt (kas_place p k f l r) ≤ k ∧ (∀ a, a < runK lt (kas_place p k f l r) → lt (at0 p a) (at0 p k) = true) ∧ ∀ a, runK lt (kas_place p k f l r) ≤ a → a < k → lt (at0 p k) (at0 p a) = true
  | 0, l, r, hlr, hrk, hf, h1, h2 => by
    have : l = r := by omega
    subst this
    exact ⟨hrk, h1, h2⟩
  | f + 1, l, r, hlr, hrk, hf, h1, h2 => by
    unfold kas_place
    by_cases hge : l ≥ r
    · rw [if_pos hge]
      have : l = r := by omega
      subst this
      exact ⟨hrk, h1, h2⟩
    rw [if_neg hge]
    simp only [runK]
    cases hc : lt (p.getD k 0) (p.getD ((l + r) / 2) 0) with
    | true =>
      simp only [if_true]
      refine place_spec O hI hk hs f l ((l + r) / 2) (by omega) (by omega) (by omega) h1 fun a ha hak => ?_
      by_cases e : a = (l + r) / 2
      · rw [e]; exact hc
      · exact O.trans _ _ _ hc (hs _ a (by omega) hak)
    | false =>
      simp only [Bool.false_eq_true, if_false]
      have h3 := O.tot _ _ (hI.bnd (k := k) hk) (hI.bnd (k := (l + r) / 2) (by omega)) (hI.ne hk (by omega) (by omega)) hc
      refine place_spec O hI hk hs f ((l + r) / 2 + 1) r (by omega) hrk (by omega) (fun a ha => ?_) h2
      by_cases e : a = (l + r) / 2
      · rw [e]; exact h3
      · exact O.trans _ _ _ (hs a _ (by omega) (by omega)) h3

theorem bin_spec (O : Ord N lt) : ∀ f (p : Array Nat) k, Inv N p → 1 ≤ k → k + f = N → Srt lt p k → Inv N (runK lt (kas_bin f p k)) ∧ Srt lt (runK lt (kas_bin f p k)) N
  | 0, p, k, hI, _, hkN, hs => by
    have : k = N := by omega
    subst this
    exact ⟨hI, hs⟩
  | f + 1, p, k, hI, hk, hkN, hs => by
    unfold kas_bin
    rw [runK_bind]
    obtain ⟨r1, r2, r3⟩ := place_spec O hI (k := k) (by omega) hs k 0 k (by omega) (by omega) (by omega) (fun a h => by omega) (fun a h h' => by omega)
    generalize runK lt (kas_place p k k 0 k) = l at r1 r2 r3
    have hsz := hI.size
    refine bin_spec O f _ (k + 1) (hI.bubble k (k - l)) (by omega) (by omega) ?_
    have e : ∀ a, at0 (PyProof.Rows.bubble p k (k - l)) a = if a = l then at0 p k else if l < a ∧ a ≤ k then at0 p (a - 1) else at0 p a := by
      intro a
      have e1 := getElem?_bubble (xs := p) (src := k) (by omega) (k - l) (by omega) a
      rw [show k - (k - l) = l from by omega] at e1
      by_cases h1 : a = l
      · rw [if_pos h1] at e1 ⊢; exact at0_congr e1
      · rw [if_neg h1] at e1 ⊢
        by_cases h2 : l < a ∧ a ≤ k
        · rw [if_pos h2] at e1 ⊢; exact at0_congr e1
        · rw [if_neg h2] at e1 ⊢; exact at0_congr e1
    intro a b hab hb
    rw [e a, e b]
    by_cases ha1 : a = l
    · rw [if_pos ha1, if_neg (by omega), if_pos (by omega)]
      exact r3 _ (by omega) (by omega)
    · rw [if_neg ha1]
      by_cases hb1 : b = l
      · rw [if_pos hb1, if_neg (by omega)]
        exact r2 _ (by omega)
      · rw [if_neg hb1]
        by_cases ha2 : l < a ∧ a ≤ k
        · rw [if_pos ha2, if_pos (by omega)]
          exact hs _ _ (by omega) (by omega)
        · rw [if_neg ha2]
          by_cases hb2 : l < b ∧ b ≤ k
          · rw [if_pos hb2]
            by_cases hb3 : a = b - 1
            · omega
            · exact hs _ _ (by omega) (by omega)
          · rw [if_neg hb2]
            exact hs _ _ hab (by omega)

theorem sort_spec (O : Ord N lt) (hN : 2 ≤ N) : Inv N (runK lt (kas_sort N)) ∧ Srt lt (runK lt (kas_sort N)) N := by
  have h0 : Inv N (List.toArray (List.range N)) := by simp [Inv]
  obtain ⟨m, q, e, hI, h1, h2, h3⟩ := count_spec O h0 hN
  unfold kas_sort
  rw [runK_bind, e]
  by_cases hlt : m < N
  · rw [if_pos hlt]
    have : max m 1 = m := by omega
    simp only [this]
    exact bin_spec O (N - m) q m hI h1 (by omega) h3
  · rw [if_neg hlt]
    have : m = N := by omega
    subst this
    exact ⟨hI, h3⟩

theorem Inv.at (hI : Inv N p) (hN : 0 < N) (k : Nat) : p.getD k 0 < N := by
  by_cases h : k < N
  · exact hI.bnd h
  · have hs := hI.size
    have : p.getD k 0 = 0 := by simp [Array.getD, show ¬ k < p.size by omega]
    rw [this]; exact hN
theorem asc_ok (hI : Inv N p) (hN : 0 < N) : ∀ f n, okW N (fun _ => True) (kas_asc p f n)
  | 0, _ => trivial
  | f + 1, n => ⟨hI.at hN _, hI.at hN _, fun b => by
    cases b
    · exact asc_ok hI hN f (n + 1)
    · trivial⟩
theorem desc_ok (hN : 0 < N) : ∀ f (p : Array Nat) n q, Inv N p → okW N (fun r => Inv N r.1) (kas_desc f p n q)
  | 0, _, _, _, hI => hI
  | f + 1, p, n, q, hI => ⟨hI.at hN _, hI.at hN _, fun b => by
    cases b
    · refine ⟨hI.at hN _, hI.at hN _, fun b => ?_⟩
      cases b
      · exact desc_ok hN f p (n + 1) (q + 1) hI
      · exact hI
    · simp only [if_true]
      by_cases hq : q > 0
      · rw [if_pos hq]; exact desc_ok hN f _ (n + 1) 0 (hI.rev _ _)
      · rw [if_neg hq]; exact desc_ok hN f p (n + 1) 0 hI⟩
theorem tail3_ok (hI : Inv N p) (hN : 0 < N) (n nrem : Nat) : okW N (fun r => Inv N r.2) (kas_tail3 n nrem p) :=
  okW_bind _ (okW_mono (fun _ _ => hI.rev 0 n) _ (asc_ok (hI.rev 0 n) hN _ _))
theorem descPart_ok (hI : Inv N p) (hN : 0 < N) (n nrem : Nat) : okW N (fun r => Inv N r.2) (kas_descPart n nrem p) := by
  refine okW_bind _ (okW_mono (fun r hr => ?_) _ (desc_ok hN _ _ _ _ hI))
  by_cases h : r.2.2 > 0
  · rw [if_pos h]; exact tail3_ok (hr.rev _ _) hN _ _
  · rw [if_neg h]; exact tail3_ok hr hN _ _
theorem count_ok (hI : Inv N p) (hN : 0 < N) : okW N (fun r => Inv N r.2) (kas_count N p) := by
  refine okW_bind _ (okW_mono (fun n _ => ?_) _ (asc_ok hI hN _ _))
  by_cases h1 : (n == N) = true
  · rw [if_pos h1]; exact hI
  · rw [if_neg h1]
    by_cases h2 : n > 1
    · rw [if_pos h2]
      refine ⟨hI.at hN _, hI.at hN _, fun b => ?_⟩
      cases b
      · exact descPart_ok (hI.rev _ _) hN _ _
      · exact hI
    · rw [if_neg h2]; exact descPart_ok hI hN _ _
theorem place_ok (hI : Inv N p) (hN : 0 < N) (k : Nat) : ∀ f l r, okW N (fun _ => True) (kas_place p k f l r)
  | 0, _, _ => trivial
  | f + 1, l, r => by
    unfold kas_place
    by_cases h : l ≥ r
    · rw [if_pos h]; trivial
    · rw [if_neg h]
      refine ⟨hI.at hN _, hI.at hN _, fun b => ?_⟩
      cases b
      · exact place_ok hI hN k f _ _
      · exact place_ok hI hN k f _ _
theorem bin_ok (hN : 0 < N) : ∀ f (p : Array Nat) k, Inv N p → okW N (fun _ => True) (kas_bin f p k)
  | 0, _, _, _ => trivial
  | f + 1, p, k, hI => okW_bind _ (okW_mono (fun l _ => bin_ok hN f _ _ (hI.bubble _ _)) _ (place_ok hI hN k _ _ _))
theorem sort_ok (hN : 0 < N) : okW N (fun _ => True) (kas_sort N) := by
  have h0 : Inv N (List.toArray (List.range N)) := by simp [Inv]
  refine okW_bind _ (okW_mono (fun r hr => ?_) _ (count_ok h0 hN))
  by_cases h : r.1 < N
  · rw [if_pos h]; exact bin_ok hN _ _ _ hr
  · rw [if_neg h]; trivial
end
end Mine

namespace Mine

/-! the order of pairs -/
theorem strExt {a b : Str} (h : a.cps.toList = b.cps.toList) : a = b := by
  cases a; cases b; simp only [Str.mk.injEq]; exact Array.toList_inj.mp h
theorem ltS_trans {a b c : Str} (h : ltS a b = true) (h' : ltS b c = true) : ltS a c = true := by
  simp only [ltS, decide_eq_true_eq] at *
  exact List.lt_trans h h'
theorem ltS_tot {a b : Str} (hne : a ≠ b) (h : ltS a b = false) : ltS b a = true := by
  simp only [ltS, decide_eq_true_eq, decide_eq_false_iff_not] at *
  refine Decidable.byContradiction fun h' => hne (strExt ?_)
  exact List.le_antisymm (List.not_lt.mp h') (List.not_lt.mp h)
theorem ltS_asymm {a b : Str} (h : ltS a b = true) : ltS b a = false := by
  simp only [ltS, decide_eq_true_eq, decide_eq_false_iff_not] at *
  exact List.lt_asymm h
theorem ltS_ne {a b : Str} (h : ltS a b = true) : a ≠ b := fun e => by
  rw [e] at h
  simp only [ltS, decide_eq_true_eq] at h
  exact List.lt_irrefl _ h
theorem plt_trans {p q r : Pr} (h : plt p q = true) (h' : plt q r = true) : plt p r = true := by
  unfold plt at *
  by_cases h1 : p.1 = q.1
  · rw [if_pos h1] at h
    by_cases h2 : q.1 = r.1
    · rw [if_pos h2] at h'
      rw [if_pos (h1.trans h2)]; exact ltS_trans h h'
    · rw [if_neg h2] at h'
      rw [if_neg (by rw [h1]; exact h2), h1]; exact h'
  · rw [if_neg h1] at h
    by_cases h2 : q.1 = r.1
    · rw [if_pos h2] at h'
      rw [if_neg (by rw [← h2]; exact h1), ← h2]; exact h
    · rw [if_neg h2] at h'
      have h3 := ltS_trans h h'
      rw [if_neg (ltS_ne h3)]; exact h3
theorem plt_tot {p q : Pr} (hne : p ≠ q) (h : plt p q = false) : plt q p = true := by
  unfold plt at *
  by_cases h1 : p.1 = q.1
  · rw [if_pos h1] at h
    rw [if_pos h1.symm]
    exact ltS_tot (fun e => hne (Prod.ext h1 e)) h
  · rw [if_neg h1] at h
    rw [if_neg (fun e => h1 e.symm)]
    exact ltS_tot h1 h
theorem plt_asymm {p q : Pr} (h : plt p q = true) : plt q p = false := by
  cases h' : plt q p with
  | false => rfl
  | true => exact absurd (plt_trans h h') (by rw [plt_irrefl]; decide)

/-! two pairs under the sort's own < -/
section
variable {prog : Program} {w : World} {A : Around} {E : Value → Shared → Prop} {s : Shared} {Q : Bool → Shared → Prop} {v u : Value} {p q : Pr}
theorem key_lt (x : TupAt s.heap v p) (y : TupAt s.heap u q) (h : Q (plt p q) s) : wpAny (model prog w) A (keyLt' (tuples' true) v u) Q E s := by
  obtain ⟨a, o, n, t1, t2, rfl, e, hc, hd⟩ := x
  obtain ⟨b, o', n', u1, u2, rfl, e', hc', hd'⟩ := y
  refine kat_lt e hd e' hd' ?_
  show KatLex prog w A true _ Q [(.str p.1 t1, .str q.1 u1), (.str p.2 t2, .str q.2 u2)] 0 s
  refine kat_cons (wpAny_eqBool_str ?_)
  unfold plt at h
  by_cases h1 : p.1 = q.1
  · rw [if_pos h1] at h
    rw [decide_eq_true h1]
    refine kat_yes (kat_cons (wpAny_eqBool_str ?_))
    by_cases h2 : p.2 = q.2
    · rw [decide_eq_true h2]
      refine kat_yes (kat_nil ?_)
      rw [h2] at h
      have e0 : ltS q.2 q.2 = false := by simp [ltS]
      rw [e0] at h
      exact h
    · rw [decide_eq_false h2]
      refine kat_no ?_
      exact kat_one _ _ (lt_str' h)
  · rw [if_neg h1] at h
    rw [decide_eq_false h1]
    refine kat_no ?_
    exact oneLt_str h
end

theorem TupsAt.kat {h : Heap} : ∀ {vs : List Value} {ps : List Pr}, TupsAt h vs ps → ∃ fs, KatTups h vs fs ∧ fs.length = vs.length ∧ ∀ v ∈ fs, ∃ x t, v = .str x t
  | [], [], _ => ⟨[], .nil, rfl, fun _ h => (nomatch h)⟩
  | _ :: vs, p :: ps, ⟨⟨a, o, n, t, u, rfl, e, hc, hd⟩, r⟩ => by
    obtain ⟨fs, k, hl, hf⟩ := TupsAt.kat r
    refine ⟨.str p.1 t :: fs, .cons e hc hd rfl k, by simp [hl], fun v hv => ?_⟩
    rcases List.mem_cons.mp hv with rfl | hv
    · exact ⟨_, _, rfl⟩
    · exact hf v hv
  | [], _ :: _, x => x.elim
  | _ :: _, [], x => x.elim
theorem TupsAt.pick {h : Heap} {vs : List Value} {ps : List Pr} {d : Pr} (x : TupsAt h vs ps) : ∀ {is : List Nat}, (∀ i ∈ is, i < ps.length) → TupsAt h (is.map fun i => vs.getD i Value.none) (is.map fun i => ps.getD i d)
  | [], _ => trivial
  | i :: is, hi => by
    refine ⟨?_, TupsAt.pick x fun j hj => hi j (.tail _ hj)⟩
    have h1 := hi i (.head _)
    have hl := x.length
    have hv : vs[i]? = some (vs.getD i Value.none) := by simp [List.getD, List.getElem?_eq_getElem (by omega : i < vs.length)]
    obtain ⟨p, hp, hT⟩ := x.get hv
    have : ps.getD i d = p := by simp [List.getD, hp]
    show TupAt h (vs.getD i Value.none) (ps.getD i d)
    rw [this]; exact hT

/-- all objects but one -/
def allObjs (h : Heap) (L : Addr) : List (Addr × Obj) := ((List.range h.objs.size).filterMap fun a => (h.get? a).map fun o => (a, o)).filter fun p => decide (p.1 ≠ L)
theorem mem_allObjs {h : Heap} {L a : Addr} {o : Obj} : (a, o) ∈ allObjs h L ↔ a ≠ L ∧ h.get? a = some o := by
  unfold allObjs
  rw [List.mem_filter, List.mem_filterMap]
  constructor
  · rintro ⟨⟨b, hb, e⟩, hL⟩
    cases q : h.get? b with
    | none => rw [q] at e; cases e
    | some o' =>
      rw [q] at e
      simp only [Option.map_some, Option.some.injEq, Prod.mk.injEq] at e
      obtain ⟨rfl, rfl⟩ := e
      exact ⟨by simpa using hL, q⟩
  · rintro ⟨hL, e⟩
    exact ⟨⟨a, List.mem_range.mpr (Heap.lt_size e), by rw [e]; rfl⟩, by simpa using hL⟩

section
variable {prog : Program} {w : World} {A : Around} {E : Value → Shared → Prop} {s : Shared} {Q : Value → Shared → Prop} {B : Heap} {L l : Addr} {m : Str → Option Value} {vs : List Value} {ps : List Pr}

theorem sorted_pairs (hn : s.heap.Ns L m) (hBL : B.get? L = none) (hS : B.StaysIn s.heap) (hl : s.heap.IsList l vs.toArray) (hT : TupsAt s.heap vs ps) (nd : ps.Nodup) (h2 : 2 ≤ ps.length) (h64 : ps.length < 64)
    (h : ∀ s' D out qs, Go B [L] s s' → s'.heap.Ns L m → s'.heap.PlainList D (List.toArray out) → TupsAt s'.heap out qs → qs.Perm ps → qs.Pairwise (fun p q => plt p q = true) → Q (.ref D) s') :
    wpAny (model prog w) A (call (.builtin "sorted") [.ref l]) Q E s := by
  have hlen := hT.length
  have e0 : ∀ a, ({} : Heap).get? a = none := fun a => by simp [Heap.get?]
  have F : Fr {} L s.heap m := ⟨hn, fun b o e => by (rw [e0] at e; exact nomatch e), Nat.zero_le _⟩
  have N : News {} L s.heap (allObjs s.heap L) := fun p hp => by
    obtain ⟨a, o⟩ := p
    obtain ⟨h1, h3⟩ := mem_allObjs.mp hp
    exact ⟨h3, h1, e0 a⟩
  refine kat_sorted F N hl (by omega) (by omega) fun D e1 h' F' N' hD => ?_
  have keep : ∀ b o, b ≠ L → s.heap.get? b = some o → h'.get? b = some o := fun b o hb e => (N' (b, o) (.tail _ (mem_allObjs.mpr ⟨hb, e⟩))).1
  have gB : Go B [L] s { s with heap := h' } := Go.but (tk := s.toks) keep hBL
  have hT' : TupsAt h' vs ps := hT.go gB (NoSeq.ns hn).tup
  obtain ⟨fs, hk, hfl, hfs⟩ := hT'.kat
  refine kat_kind (T := .type "str") hk (by omega) (fun v hv => by
    obtain ⟨x, t, rfl⟩ := hfs v hv
    exact Looks.of_pure rfl) (by decide) ?_
  show (kas_sort vs.length).kasWp (kas_ask prog w A.in1.in1 (tuples' true) vs) _ { s with heap := h' }
  have hpl : 0 < ps.length := by omega
  have hO : Ord ps.length (fun i j => plt (ps.getD i (Str.empty, Str.empty)) (ps.getD j (Str.empty, Str.empty))) := by
    refine ⟨fun a b c h1 h3 => plt_trans h1 h3, fun a b ha hb hab h1 => plt_tot ?_ h1⟩
    have hp := List.pairwise_iff_getElem.mp nd
    have ea : ps.getD a (Str.empty, Str.empty) = ps[a] := by simp [List.getD, ha]
    have eb : ps.getD b (Str.empty, Str.empty) = ps[b] := by simp [List.getD, hb]
    rw [ea, eb]
    rcases Nat.lt_or_gt_of_ne hab with h4 | h4
    · exact hp a b ha hb h4
    · exact fun e => hp b a hb ha h4 e.symm
  obtain ⟨hI, hsr⟩ := sort_spec hO h2
  rw [hlen]
  refine kasWp_run (lt := fun i j => plt (ps.getD i (Str.empty, Str.empty)) (ps.getD j (Str.empty, Str.empty))) (fun i j C hi hj hC => ?_) _ (sort_ok hpl) ?_
  · have gi : ∀ k, k < ps.length → TupAt h' (vs.getD k Value.none) (ps.getD k (Str.empty, Str.empty)) := fun k hk' => by
      have := hT'.pick (d := (Str.empty, Str.empty)) (is := [k]) (fun i hi => by rw [List.mem_singleton.mp hi]; exact hk')
      exact this.1
    exact key_lt (s := { s with heap := h' }) (gi i hi) (gi j hj) hC
  · generalize runK _ (kas_sort ps.length) = pp at hI hsr
    refine .intro F' N' (.head fun p hp => Nat.ne_of_lt (hD p hp)) fun h'' c F'' N'' => ?_
    have keep2 : ∀ b o, b ≠ L → s.heap.get? b = some o → h''.get? b = some o := fun b o hb e => (N'' (b, o) (.tail _ (mem_allObjs.mpr ⟨hb, e⟩))).1
    have gB2 : Go B [L] s { s with heap := h'' } := Go.but (tk := s.toks) keep2 hBL
    have hb : ∀ i ∈ pp.toList, i < ps.length := fun i hi => List.mem_range.mp (hI.mem_iff.mp hi)
    refine h _ D (pp.toList.map fun i => vs.getD i Value.none) (pp.toList.map fun i => ps.getD i (Str.empty, Str.empty)) gB2 F''.ns ⟨c, (N'' (D, _) (.head _)).1⟩ ((hT.go gB2 (NoSeq.ns hn).tup).pick hb) ?_ ?_
    · refine (hI.map _).trans ?_
      have : (List.range ps.length).map (fun i => ps.getD i (Str.empty, Str.empty)) = ps := by
        apply List.ext_getElem
        · simp
        · intro i h1 h3
          simp [List.getD, h3]
      rw [this]
    · rw [List.pairwise_map, List.pairwise_iff_getElem]
      intro i j hi hj hij
      have hsz := hI.size
      have h5 := hsr i j hij (by simp at hj; omega)
      rw [at0_eq (by simpa using hi), at0_eq (by simpa using hj)] at h5
      simpa using h5
end
end Mine

namespace Mine

abbrev rowEnv (L f : Addr) (cd : Value) : Env := envOf (Str.ofString "_law_row") (scopeOf rowS) L f cd
section
variable {L f : Addr} {cd : Value}
theorem rk : (scopeOf rowS).kind = .function := by with_unfolding_all rfl
theorem rk_script : (rowEnv L f cd).kindOf (Str.ofString "script") = some .local := by with_unfolding_all rfl
theorem rk_row : (rowEnv L f cd).kindOf (Str.ofString "row") = some .local := by with_unfolding_all rfl
theorem rk_x : (rowEnv L f cd).kindOf (Str.ofString "x") = some .local := by with_unfolding_all rfl
theorem rk_host : (rowEnv L f cd).kindOf (Str.ofString "host") = some .local := by with_unfolding_all rfl
theorem rk_path : (rowEnv L f cd).kindOf (Str.ofString "path") = some .local := by with_unfolding_all rfl
theorem rk_len : (rowEnv L f cd).kindOf (Str.ofString "len") = some .globalImplicit := by with_unfolding_all rfl
theorem rk_sorted : (rowEnv L f cd).kindOf (Str.ofString "sorted") = some .globalImplicit := by with_unfolding_all rfl
end

/-- a good pair -/
def Gp (k : Nat) (p : Pr) : Prop := Okp p ∧ p.1.length ≤ 10 ∧ p.2.length ≤ 10 + k
def chr4 (n : Int) : Str := Txt.item (Str.ofString "/-0a") (n.fmod 4)
theorem chr4_ok (n : Int) : PyData.strOk (chr4 n) = true ∧ (chr4 n).length = 1 := by
  unfold chr4
  have h0 : 0 ≤ n.fmod 4 := Int.fmod_nonneg_of_pos n (by decide)
  have h1 : n.fmod 4 < 4 := Int.fmod_lt_of_pos n (by decide)
  generalize n.fmod 4 = i at h0 h1
  have : i = 0 ∨ i = 1 ∨ i = 2 ∨ i = 3 := by omega
  rcases this with rfl | rfl | rfl | rfl <;> decide +kernel
theorem strOk_append {a b : Str} (ha : PyData.strOk a = true) (hb : PyData.strOk b = true) : PyData.strOk (a ++ b) = true := by
  unfold PyData.strOk at *
  have e : (a ++ b).cps = a.cps ++ b.cps := rfl
  rw [e, Array.all_append, ha, hb]; rfl

section
variable {prog : Program} {w : World} {A : Around} {E : Value → Shared → Prop} {s : Shared} {B : Heap} {env : Env}
/-- xs[:k] -/
theorem ev_upto {value : PySem.Expr} {kI : Int} {k c : Nat} {p1 p3 p4 : Pos} {Q : Value → Shared → Prop} (hkI : kI = (k : Int))
    (h : wpAny (model prog w) A (eval value env) (fun o s₁ => ∃ l vs, o = .ref l ∧ s₁.heap.IsList l (List.toArray vs) ∧ vs.length ≤ 1000 ∧
      ∀ s' b, Go B [] s₁ s' → s₁.heap.get? b = none → s'.heap.PlainList b (vs.take k).toArray → Q (.ref b) s') E s)
    (ht : ∀ o r, letTemporaryGo value o r = pure ()) :
    wpAny (model prog w) A (eval (.Subscript value (.Slice none (some (.Constant (.int kI) c p1)) none p3) p4) env) Q E s := by
  subst hkI
  refine wpAny_Subscript_list_slice (wpAny_mono h (fun o s₁ h₁ => wpAny_evalPart_none (wpAny_evalPart_some (wpAny_Constant_int ?_))) fun _ _ x => x) ht
  obtain ⟨l, vs, rfl, hl, hz, hq⟩ := h₁
  refine ⟨l, vs.toArray, none, some (k : Int), rfl, hl, by rw [List.size_toArray, sizeLine_eq]; omega, .none, .int _ _, ?_⟩
  refine hq _ (s₁.heap.objs.size + 1) (Go.keep fun b o e => Heap.get?_push_of_some _ (Heap.get?_push_of_some _ e)) (Heap.get?_none_of_le (by omega)) ⟨0, ?_⟩
  rw [slicePick_upto']
  have e : s₁.heap.objs.size + 1 = (s₁.heap.push { cls := .type "slice", data := .fields #[.none, .int (k : Int) s₁.toks, .none] }).objs.size := by simp
  show Heap.get? _ (s₁.heap.objs.size + 1) = _
  rw [e]
  exact Heap.get?_push_size _ rfl
end

section
variable {prog : Program} {w : World} {A : Around} {E : Value → Shared → Prop} {s : Shared} {B : Heap} {L lr f : Addr} {cd : Value} {mg mb : Str → Option Value}

/-- the loop's state -/
def RK (L lr : Addr) (i : Nat) (s : Shared) : Prop :=
  ∃ (m : Str → Option Value) (rvs : List Value) (ps : List Pr), s.heap.Ns L m ∧ m (Str.ofString "row") = some (.ref lr) ∧ s.heap.PlainList lr rvs.toArray ∧ TupsAt s.heap rvs ps ∧ 3 ≤ ps.length ∧ ps.length ≤ 3 + i ∧ ps.Nodup ∧ ∀ p ∈ ps, Gp i p

def forBody : Stmt → List Stmt
  | .For _ _ b _ _ => b
  | _ => []
def rowBody : List Stmt := forBody ((bodyOf rowS).getD 1 (.Pass ⟨0, 0, 0, 0⟩))

theorem row_turn {i : Nat} {n : Int} {t : Tok} {pos : Pos} (hu : A.units + 64 < cLine) (hA : A.handled = none) (hS : B.StaysIn s.heap) (G : Gl B mg mb) (g1 : mg (Str.ofString "len") = none) (g2 : mb (Str.ofString "len") = some (.builtin "len")) (hBL : B.get? L = none) (hBr : B.get? lr = none) (hi : i < 100) (hk : RK L lr i s) :
    wpAny (model prog w) A (assign (.Name (Str.ofString "x") pos) (rowEnv L f cd) (.int n t)) (fun _ s2 => wpAny (model prog w) A (execs rowBody (rowEnv L f cd)) (fun fl s3 => match fl with
      | .next | .cont => Go B [L, lr] s s3 ∧ RK L lr (i + 1) s3
      | .brk => False
      | .ret _ => False) (fun _ _ => False) s2) (fun _ _ => False) s := by
  obtain ⟨m, rvs, ps, hns, hrow, hpl, hT, h3, hb, nd, gp⟩ := hk
  have hlen := hT.length
  have hsl : sizeLine = 16777216 := sizeLine_eq
  refine wpAny_assign_Name (stN (B := B) hns hBL (fun s2 k2 n2 => ?_) rk rk_x)
  have hpl2 := k2.plain (by simpa using ne_ns_plain hns hpl) hpl
  have hT2 := hT.go k2 (NoSeq.ns hns).tup
  have S2 := k2.base hS
  -- host, path = row[x // 8 % len(row)]
  refine wpAny_execs_cons (Assign_Tuple (Subscript_ (ldN n2 (v := .ref lr) ((upd_ne (by decide)).trans hrow) ?_ rk rk_row)) (by with_unfolding_all rfl) (by with_unfolding_all rfl))
  refine wpAny_BinOp (wpAny_BinOp (ldN n2 upd_eq (wpAny_Constant_int (floordiv_int (by decide) ?_)) rk rk_x))
  refine wpAny_Call_ofName (ldB G S2 g1 g2 ?_ rk rk_len)
  refine callWith_method1 (first := []) (spliced_more (ldN n2 (v := .ref lr) ((upd_ne (by decide)).trans hrow) (spliced_none ?_) rk rk_row) (by with_unfolding_all rfl)) (by with_unfolding_all rfl) (by with_unfolding_all rfl)
  refine len_list hpl2.isList (by rw [List.size_toArray]; omega) ?_
  refine mod_int' (by rw [List.size_toArray]; omega) ?_
  rw [List.size_toArray]
  have k0 : 0 ≤ (n.fdiv 8).fmod (rvs.length : Int) := Int.fmod_nonneg_of_pos _ (by omega)
  have k1 : (n.fdiv 8).fmod (rvs.length : Int) < rvs.length := Int.fmod_lt_of_pos _ (by omega)
  obtain ⟨j, hj⟩ : ∃ j : Nat, (n.fdiv 8).fmod (rvs.length : Int) = (j : Int) := ⟨_, (Int.toNat_of_nonneg k0).symm⟩
  rw [hj]
  rw [hj] at k1
  obtain ⟨v, hv⟩ : ∃ v, rvs[j]? = some v := ⟨_, List.getElem?_eq_getElem (by omega)⟩
  refine sub_in hpl2.isList hv (by omega) ?_ (by with_unfolding_all rfl)
  obtain ⟨p, hp, hTv⟩ := hT2.get hv
  have gpp := gp p (List.mem_of_getElem? hp)
  refine as_pair (B := B) hA S2 hTv (fun s3 t3 u3 k3 => ?_) (by with_unfolding_all rfl)
  have kk3 : Go B [L] s s3 := (k2.trans Go.toks).trans k3.nil
  refine wpAny_assign_Name (stN (B := B) (k3.ns (by simp) n2) hBL (fun s4 k4 n4 => wpAny_assign_Name (stN (B := B) n4 hBL (fun s5 k5 n5 => ?_) rk rk_path)) rk rk_host)
  have kk5 : Go B [L] s s5 := (kk3.trans k4).trans k5
  -- the rest, whatever the host
  have rest : ∀ (s6 : Shared) (m6 : Str → Option Value) (h' : Str) (t' : Tok), Go B [L] s s6 → s6.heap.Ns L m6 → m6 (Str.ofString "row") = some (.ref lr) → m6 (Str.ofString "host") = some (.str h' t') → m6 (Str.ofString "path") = some (.str p.2 u3) → m6 (Str.ofString "x") = some (.int n t) → PyData.strOk h' = true → h'.length ≤ 10 →
      wpAny (model prog w) A (execs (rowBody.drop 2) (rowEnv L f cd)) (fun fl s3 => match fl with
        | .next | .cont => Go B [L, lr] s s3 ∧ RK L lr (i + 1) s3
        | .brk => False
        | .ret _ => False) (fun _ _ => False) s6 := by
    intro s6 m6 h' t' k6 n6 e1 e2 e3 e4 ok1 ok2
    have hpl6 := k6.plain (by simpa using ne_ns_plain hns hpl) hpl
    have hT6 := hT.go k6 (NoSeq.ns hns).tup
    have okq : Okp (h', p.2 ++ chr4 n) := ⟨ok1, strOk_append gpp.1.2 (chr4_ok n).1⟩
    have lc := (chr4_ok n).2
    have lp := gpp.2.2
    -- (host, path + '/-0a'[x % 4])
    have tup : ∀ {s7 : Shared} {Q : Value → Shared → Prop} {E : Value → Shared → Prop} {c : Nat} {c1 c2 : Nat} {q1 q2 q3 q4 q5 q6 q7 q8 q9 : Pos}, Go B [] s6 s7 → (∀ s8 v, Go B [] s7 s8 → TupAt s8.heap v (h', p.2 ++ chr4 n) → Q v s8) →
        wpAny (model prog w) A (eval (.Tuple [.Name (Str.ofString "host") q1, .BinOp (.Name (Str.ofString "path") q2) .Add (.Subscript (.Constant (.str (Str.ofString "/-0a")) c1 q3) (.BinOp (.Name (Str.ofString "x") q4) .Mod (.Constant (.int 4) c2 q5) q6) q7) q8] c q9) (rowEnv L f cd)) Q E s7 := by
      intro s7 Q E c c1 c2 q1 q2 q3 q4 q5 q6 q7 q8 q9 k7 hq
      have n7 := k7.ns (by simp) n6
      refine ev_pair (B := B) (ldN n7 e2 (wpAny_BinOp (ldN n7 e3 (Subscript_ (wpAny_Constant_str (wpAny_BinOp (ldN (s := { s7 with toks := _ }) n7 e4 (wpAny_Constant_int (mod_int' (by decide) ?_)) rk rk_x)))) rk rk_path)) rk rk_host) (by with_unfolding_all rfl) (by with_unfolding_all rfl)
      have h0 : 0 ≤ n.fmod 4 := Int.fmod_nonneg_of_pos n (by decide)
      have h1 : n.fmod 4 < 4 := Int.fmod_lt_of_pos n (by decide)
      have hl4 : ((Str.ofString "/-0a").length : Int) = 4 := by decide
      refine item_str ?_ (by omega) (by omega) (fun _ => ?_) (by with_unfolding_all rfl) (letGo_str _ _ _)
      · unfold fitsSsize
        simp only [Bool.not_eq_true', Bool.or_eq_false_iff, decide_eq_false_iff_not]
        omega
      · refine add_str (fun t9 tk9 => ?_) (by
          show p.2.length + (chr4 n).length ≤ sizeLine
          omega)
        exact ⟨h', t', p.2 ++ chr4 n, t9, rfl, rfl, fun s8 v k8 hv => hq s8 v (Go.toks.trans k8) hv⟩
    refine wpAny_execs_cons (wpAny_If (wpAny_isTrue_Compare1 (tup (.refl ..) fun s7 v k7 hv => ?_)))
    have n7 := k7.ns (by simp) n6
    refine ldN n7 e1 (notIn_pairs hv ⟨lr, rvs, rfl, (k7.plain (by simp) hpl6).isList, hT6.go k7 .nil⟩ okq (fun q hq => (gp q hq).1) hu (wpAny_truthy_bool ?_)) rk rk_row
    by_cases hin : (h', p.2 ++ chr4 n) ∈ ps
    · rw [if_neg (by simpa using hin)]
      refine wpAny_execs_nil (wpAny_execs_nil ⟨(k6.trans k7.nil).mono (fun b hb => by rw [List.mem_singleton.mp hb]; exact .head _), m6, rvs, ps, n7, e1, k7.plain (by simp) hpl6, hT6.go k7 .nil, h3, by omega, nd, fun q hq => ⟨(gp q hq).1, (gp q hq).2.1, ?_⟩⟩)
      have := (gp q hq).2.2
      omega
    · rw [if_pos (by simpa using hin)]
      have hpl7 := k7.plain (by simp) hpl6
      refine wpAny_execs_cons (app_stmt (B := B) (l := lr) (vs := rvs) (pl := _) (ldN n7 e1 ⟨rfl, hpl7, tup k7 fun s8 v' k8 hv' => ⟨k8.plain (by simp) hpl7, by omega, hBr, fun s9 k9 hp9 => ?_⟩⟩ rk rk_row) (by with_unfolding_all rfl) (by with_unfolding_all rfl) (by with_unfolding_all rfl) (by with_unfolding_all rfl))
      have hpl8 := k8.plain (by simp) hpl7
      have n8 := k8.ns (by simp) n7
      refine wpAny_execs_nil (wpAny_execs_nil ⟨?_, m6, rvs ++ [v'], ps ++ [(h', p.2 ++ chr4 n)], k9.ns (by simpa using (ne_ns_plain n8 hpl8).symm) n8, e1, hp9, ?_, by simp; omega, by simp; omega, ?_, ?_⟩)
      · refine (((k6.trans k7.nil).trans k8.nil).mono (Y := [L, lr]) (fun b hb => by rw [List.mem_singleton.mp hb]; exact .head _)).trans (k9.mono fun b hb => by rw [List.mem_singleton.mp hb]; exact .tail _ (.head _))
      · exact .append (((hT6.go k7 .nil).go k8 .nil).go k9 (NoTup.list hpl8.isList)) (.one (hv'.go k9 (NoTup.list hpl8.isList)))
      · rw [List.nodup_append]
        refine ⟨nd, by simp, fun a ha b hb e => ?_⟩
        rw [List.mem_singleton.mp hb] at e
        exact hin (e ▸ ha)
      · intro q hq
        rcases List.mem_append.mp hq with hq | hq
        · have := gp q hq
          exact ⟨this.1, this.2.1, by have := this.2.2; omega⟩
        · rw [List.mem_singleton.mp hq]
          refine ⟨okq, ok2, ?_⟩
          show (p.2 ++ chr4 n).length ≤ _
          rw [Str.length_append]; omega
  -- if x // 4 % 2 == 1
  have mx : upd (upd (upd m (Str.ofString "x") (.int n t)) (Str.ofString "host") (.str p.1 t3)) (Str.ofString "path") (.str p.2 u3) (Str.ofString "x") = some (.int n t) := (upd_ne (by decide)).trans ((upd_ne (by decide)).trans upd_eq)
  have mr : upd (upd (upd m (Str.ofString "x") (.int n t)) (Str.ofString "host") (.str p.1 t3)) (Str.ofString "path") (.str p.2 u3) (Str.ofString "row") = some (.ref lr) := (upd_ne (by decide)).trans ((upd_ne (by decide)).trans ((upd_ne (by decide)).trans hrow))
  have mh : upd (upd (upd m (Str.ofString "x") (.int n t)) (Str.ofString "host") (.str p.1 t3)) (Str.ofString "path") (.str p.2 u3) (Str.ofString "host") = some (.str p.1 t3) := (upd_ne (by decide)).trans upd_eq
  have mp : upd (upd (upd m (Str.ofString "x") (.int n t)) (Str.ofString "host") (.str p.1 t3)) (Str.ofString "path") (.str p.2 u3) (Str.ofString "path") = some (.str p.2 u3) := upd_eq
  refine wpAny_execs_cons (wpAny_If (wpAny_isTrue_Compare1 (wpAny_BinOp (wpAny_BinOp (ldN n5 mx (wpAny_Constant_int (floordiv_int (by decide) (wpAny_Constant_int (mod_int' (by decide) (wpAny_Constant_int (eq_int (wpAny_truthy_bool ?_))))))) rk rk_x)))))
  by_cases hodd : (n.fdiv 4).fmod 2 = 1
  · rw [if_pos (by simpa using hodd)]
    have fin : ∀ (s6 : Shared) (h' : Str) (t' : Tok), Go B [] s5 s6 → PyData.strOk h' = true → h'.length ≤ 10 → wpAny (model prog w) A (storeName (rowEnv L f cd) (Str.ofString "host") (.str h' t')) (fun _ s7 => wpAny (model prog w) A (execs [] (rowEnv L f cd)) (fun fl s8 => match fl with
        | .next => wpAny (model prog w) A (execs (rowBody.drop 2) (rowEnv L f cd)) (fun fl s3 => match fl with
          | .next | .cont => Go B [L, lr] s s3 ∧ RK L lr (i + 1) s3
          | .brk => False
          | .ret _ => False) (fun _ _ => False) s8
        | fl => match fl with
          | .next | .cont => Go B [L, lr] s s8 ∧ RK L lr (i + 1) s8
          | .brk => False
          | .ret _ => False) (fun _ _ => False) s7) (fun _ _ => False) s6 := by
      intro s6 h' t' k6 o1 o2
      refine stN (B := B) (k6.ns (by simp) n5) hBL (fun s7 k7 n7 => wpAny_execs_nil ?_) rk rk_host
      exact rest s7 _ h' t' ((kk5.trans k6.nil).trans k7) n7 ((upd_ne (by decide)).trans mr) (if_pos rfl) ((upd_ne (by decide)).trans mp) ((upd_ne (by decide)).trans mx) o1 o2
    refine wpAny_execs_cons (wpAny_Assign_Name (wpAny_IfExp (wpAny_isTrue_Compare1 (ldN (s := { s5 with toks := _ }) n5 mh (wpAny_Constant_str (eq_str (wpAny_truthy_bool ?_))) rk rk_host))))
    by_cases hh : p.1 = Str.ofString "h"
    · rw [if_pos (by simpa using hh)]
      exact wpAny_Constant_str (fin _ (Str.ofString "g") _ Go.toks (by decide +kernel) (by decide +kernel))
    · rw [if_neg (by simpa using hh)]
      exact wpAny_Constant_str (fin _ (Str.ofString "h") _ Go.toks (by decide +kernel) (by decide +kernel))
  · rw [if_neg (by simpa using hodd)]
    refine wpAny_execs_nil ?_
    exact rest _ _ p.1 t3 (kk5.trans Go.toks) n5 mr mh mp mx gpp.1.1 gpp.2.1
end
end Mine

namespace Mine

theorem swaps_List {elts : List PySem.Expr} {p : Pos} {t : Option PySem.Expr} {n : Nat} {env : Env} : swapsWith (.List elts p) t n env = pure false := rfl

section
variable {prog : Program} {w : World} {A : Around} {E : Value → Shared → Prop} {s : Shared} {B : Heap} {Q : Value → Shared → Prop} {f ls : Addr} {cd : Value} {mg mb : Str → Option Value} {svs : List Value} {ns : List Int}

theorem RK.keep {L lr : Addr} {i : Nat} {s1 s2 : Shared} {a : Addr} (x : RK L lr i s1) (g : Go B [a] s1 s2) (hf : Fld s1.heap a) : RK L lr i s2 := by
  obtain ⟨m, rvs, ps, hns, hrow, hpl, hT, r⟩ := x
  have hX : FldX {} {} s1.heap [a] := .one (by simp [Heap.get?]) (by simp [Heap.get?]) hf
  exact ⟨m, rvs, ps, g.ns (hX.ns hns) hns, hrow, g.plain (hX.list hpl.isList) hpl, hT.go g hX.noSeq.tup, r⟩



set_option maxHeartbeats 4000000 in
theorem row_call (X : FnAt B f (Str.ofString "_law_row") rowS cd) (hS : B.StaysIn s.heap) (hlim : B.NoLimit) (hroom : A.depth < recursionLimit) (hu : A.units + 80 < cLine) (hA : A.handled = none)
    (G : Gl B mg mb) (g1 : mg (Str.ofString "len") = none) (g2 : mb (Str.ofString "len") = some (.builtin "len")) (g3 : mg (Str.ofString "sorted") = none) (g4 : mb (Str.ofString "sorted") = some (.builtin "sorted"))
    (hl : s.heap.IsList ls svs.toArray) (hI : IntsAre svs ns) (hz : svs.length ≤ 1000)
    (h : ∀ s' D out qs, Go B [] s s' → s'.heap.PlainList D (List.toArray out) → TupsAt s'.heap out qs → qs.Pairwise (fun p q => plt p q = true) → (∀ p ∈ qs, Gp 6 p) → qs.length ≤ 9 → Q (.ref D) s') :
    wpAny (model prog w) A (call (.ref f) [.ref ls]) Q E s := by
  refine call_fn X hS hlim hroom (binds := [(Str.ofString "script", .ref ls)]) (fun _ _ _ _ _ => by with_unfolding_all rfl) (by decide) (by
    intro z hz
    rw [List.mem_singleton.mp hz]; with_unfolding_all rfl) (by with_unfolding_all rfl) (by with_unfolding_all rfl) (by with_unfolding_all rfl) fun s₁ L hL g hns hBL => ?_
  have hu' : (A.deeper (rowEnv L f cd)).units + 64 < cLine := by simp only [Around.deeper_units]; omega
  have hA' : (A.deeper (rowEnv L f cd)).handled = none := hA
  have hsl : sizeLine = 16777216 := sizeLine_eq
  -- row = [..]
  refine wpAny_execs_cons ?_
  with_reducible refine wpAny_Assign_Name (wpAny_List_spliced ?_) swaps_List
  refine spliced_more (ev_pair (B := B) (wpAny_Constant_str (wpAny_Constant_str ⟨_, _, _, _, rfl, rfl, fun s2 v1 k2 hv1 => ?_⟩)) (by with_unfolding_all rfl) (by with_unfolding_all rfl)) (by with_unfolding_all rfl)
  refine spliced_more (ev_pair (B := B) (wpAny_Constant_str (wpAny_Constant_str ⟨_, _, _, _, rfl, rfl, fun s3 v2 k3 hv2 => ?_⟩)) (by with_unfolding_all rfl) (by with_unfolding_all rfl)) (by with_unfolding_all rfl)
  refine spliced_more (ev_pair (B := B) (wpAny_Constant_str (wpAny_Constant_str ⟨_, _, _, _, rfl, rfl, fun s4 v3 k4 hv3 => ?_⟩)) (by with_unfolding_all rfl) (by with_unfolding_all rfl)) (by with_unfolding_all rfl)
  refine spliced_none ⟨by show 3 ≤ sizeLine; omega, ?_⟩
  have c2 : Go B [] s₁ s2 := Go.toks.trans k2
  have c3 : Go B [] s2 s3 := Go.toks.trans k3
  have c4 : Go B [] s3 s4 := Go.toks.trans k4
  have k5 : Go B [] s4 { s4 with heap := s4.heap.push { cls := .type "list", data := .seq [v1, v2, v3].toArray } } := Go.push (s := s4) (tk := s4.toks) _
  have hn5 : s4.heap.get? s4.heap.objs.size = none := Heap.get?_none_of_le (Nat.le_refl _)
  have hp5 : ({ s4 with heap := s4.heap.push { cls := .type "list", data := .seq [v1, v2, v3].toArray } } : Shared).heap.PlainList s4.heap.objs.size [v1, v2, v3].toArray := ⟨0, Heap.get?_push_size _ rfl⟩
  generalize ({ s4 with heap := s4.heap.push { cls := .type "list", data := .seq [v1, v2, v3].toArray } } : Shared) = s5 at k5 hp5
  generalize s4.heap.objs.size = lr at hn5 hp5
  have hT5 : TupsAt s5.heap [v1, v2, v3] [(Str.ofString "g", Str.ofString ""), (Str.ofString "h", Str.ofString "/a"), (Str.ofString "h", Str.ofString "/a/0")] :=
    ⟨((hv1.go c3 .nil).go c4 .nil).go k5 .nil, (hv2.go c4 .nil).go k5 .nil, hv3.go k5 .nil, trivial⟩
  have go5 : Go B [] s s5 := (((g.trans c2).trans c3).trans c4).trans k5
  have n5 := (((c2.trans c3).trans c4).trans k5).ns (by simp) hns
  have none_of : ∀ {a : Addr} {sx : Shared}, Go B [] s sx → sx.heap.get? a = none → s.heap.get? a = none := fun {a sx} gx hn => by
    cases q : s.heap.get? a with
    | none => rfl
    | some o =>
      obtain ⟨o', e, _⟩ := gx.ext a o (by simp) q
      rw [hn] at e; cases e
  have hlr : s.heap.get? lr = none := none_of (((g.trans c2).trans c3).trans c4) hn5
  have hBr : B.get? lr = none := none_of_stays hS hlr
  refine stN (B := B) n5 hBL (fun s6 k6 n6 => ?_) rk rk_row
  have go6 : Go B [] s s6 := go5.drop1 k6 hL
  have hp6 := k6.plain (by simpa using ne_ns_plain n5 hp5) hp5
  have hT6 := hT5.go k6 (NoSeq.ns n5).tup
  -- for x in script[:6]
  refine wpAny_execs_cons (wpAny_For (ev_upto (B := B) (k := 6) rfl (ldN n6 (v := .ref ls) (by with_unfolding_all rfl) ⟨ls, svs, rfl, go6.isList (by simp) hl, hz, fun s7 b k7 hb hp7 => ?_⟩ rk rk_script) (by intro _ _; with_unfolding_all rfl)) (by intro _; with_unfolding_all rfl))
  have n7 := k7.ns (by simp) n6
  have hp7' := k7.plain (by simp) hp6
  have hI6 := hI.take 6
  have l6 : (svs.take 6).length ≤ 6 := by simp; omega
  refine for_list (B := B) [L, lr] (RK L lr) hA' ((go6.trans k7).base hS) hp7.isList ?_ ?_ (fun i s1 s2 a x y z => x.keep y z) ⟨_, _, _, n7, if_pos rfl, hp7', hT6.go k7 .nil, by simp, by simp, by decide +kernel, ?_⟩ own_name (fun i v s8 hv k8 hk => ?_) fun s8 k8 hk => ?_
  · intro q
    rcases List.mem_cons.mp q with rfl | q
    · exact absurd rfl (ne_ns_plain n7 hp7)
    · rw [List.mem_singleton.mp q] at hb
      obtain ⟨n, e⟩ := hp6
      rw [hb] at e; cases e
  · intro x hx
    rcases List.mem_cons.mp hx with rfl | hx
    · obtain ⟨o, _, _, e, _⟩ := n7
      rw [e]; simp
    · rw [List.mem_singleton.mp hx]
      obtain ⟨n, e⟩ := hp7'
      rw [e]; simp
  · intro p hp
    have : p = (Str.ofString "g", Str.ofString "") ∨ p = (Str.ofString "h", Str.ofString "/a") ∨ p = (Str.ofString "h", Str.ofString "/a/0") := by simpa using hp
    rcases this with rfl | rfl | rfl
    · exact ⟨⟨by decide +kernel, by decide +kernel⟩, by decide +kernel, by decide +kernel⟩
    · exact ⟨⟨by decide +kernel, by decide +kernel⟩, by decide +kernel, by decide +kernel⟩
    · exact ⟨⟨by decide +kernel, by decide +kernel⟩, by decide +kernel, by decide +kernel⟩
  · have hi6 : i < (svs.take 6).length := (List.getElem?_eq_some_iff.mp hv).1
    obtain ⟨n, t, rfl⟩ : ∃ n t, v = .int n t := IntsAre.all hI6 v (List.mem_of_getElem? hv)
    refine wpAny_mono (row_turn (B := B) hu' hA' (k8.base ((go6.trans k7).base hS)) G g1 g2 hBL hBr (by omega) hk) (fun _ s9 h9 => wpAny_mono h9 (fun fl s10 h10 => ?_) fun _ _ x => x) fun _ _ x => x
    cases fl with
    | next => exact h10
    | cont => exact h10
    | brk => exact h10.elim
    | ret v => exact h10.elim
  · -- return sorted(row)
    obtain ⟨m, rvs, ps, n8, e8, p8, t8, h3, hle, nd, gp⟩ := hk
    have go8 : Go B [] s s8 := (go6.trans k7).drop k8 (fun x hx => by
      rcases List.mem_cons.mp hx with rfl | hx
      · exact .inr hL
      · rw [List.mem_singleton.mp hx]; exact .inr hlr)
    refine wpAny_execs_cons (wpAny_Return_some (wpAny_Call_ofName (ldB G (go8.base hS) g3 g4 ?_ rk rk_sorted)))
    refine callWith_method1 (first := []) (spliced_more (ldN n8 e8 (spliced_none ?_) rk rk_row) (by with_unfolding_all rfl)) (by with_unfolding_all rfl) (by with_unfolding_all rfl)
    refine sorted_pairs (B := B) n8 hBL (go8.base hS) p8.isList t8 nd (by omega) (by omega) fun s9 D out qs k9 n9 pD tD hperm hsr => ?_
    refine h s9 D out qs (go8.drop1 k9 hL) pD tD hsr (fun p hp => ?_) (by rw [hperm.length_eq]; omega)
    have := gp p (hperm.mem_iff.mp hp)
    exact ⟨this.1, this.2.1, by have := this.2.2; omega⟩
end
end Mine

namespace Mine

section
variable {prog : Program} {w : World} {A : Around} {E : Value → Shared → Prop} {s : Shared} {B : Heap} {env : Env}

/-- [x for x in (a list of pairs) if c] -/
theorem comp_filter {iter c : PySem.Expr} {x : Str} {px px' pos : Pos} {scope : Scope} {cl : List (Str × Addr)} {Q : Value → Shared → Prop} (keep : Pr → Bool) (hA : A.handled = none)
    (hclos : closureFor scope env = pure cl) (hcell : ∀ y ∈ scope.names, y.2 ≠ .cell) (hkind : scope.kind = .function)
    (hnames : ∀ y ∈ scope.names, y.2 = .local → scope.names.lookup y.1 = some .local) (hx : scope.names.lookup x = some .local) (hdb : (x == ("__debug__" : Str)) = false)
    (hs : ∀ v, foldedSetIterable iter env v = pure v)
    (h : wpAny (model prog w) A (eval iter env) (fun xv s₁ => ∃ l vs ps, xv = .ref l ∧ B.StaysIn s₁.heap ∧ s₁.heap.IsList l (List.toArray vs) ∧ TupsAt s₁.heap vs ps ∧ vs.length ≤ 1000 ∧
      (∀ C m s₂ v p (E' : Value → Shared → Prop), Go B [] s₁ s₂ → s₂.heap.Ns C m → m x = some v → TupAt s₂.heap v p → p ∈ ps →
        wpAny (model prog w) A (isTrue c (compEnvC scope cl C env) (eval c (compEnvC scope cl C env))) (fun ok s₃ => ok = keep p ∧ Go B [] s₂ s₃) E' s₂) ∧
      (∀ s₃ D out, Go B [] s₁ s₃ → s₁.heap.get? D = none → s₃.heap.PlainList D (List.toArray out) → TupsAt s₃.heap out (ps.filter keep) → Q (.ref D) s₃)) E s) :
    wpAny (model prog w) A (eval (.ListComp (.Name x px) [⟨.Name x px', iter, [c], 0⟩] scope pos) env) Q E s := by
  rw [eval_ListComp]
  refine wpAny_comprehension_free (use := none) rfl hs hclos hkind hnames (wpAny_mono h (fun xv s₁ h₁ => ?_) fun _ _ e => e)
  obtain ⟨l, vs, ps, rfl, hS, hl, hT, hz, htest, hq⟩ := h₁
  refine wpAny_pyIter_list hl ?_
  generalize hs2 : ({ s₁ with heap := s₁.heap.push { cls := .type "list_iterator", data := .fields #[.ref l, .int 0 0] } } : Shared) = s₂
  have g2 : Go B [] s₁ s₂ := by rw [← hs2]; exact Go.push (s := s₁) (tk := s₁.toks) _
  have hit2 : s₂.heap.IsListIter s₁.heap.objs.size l 0 := by rw [← hs2]; exact ⟨_, Heap.get?_push_size _ rfl, rfl, rfl⟩
  have hz2 : s₂.heap.objs.size = s₁.heap.objs.size + 1 := by rw [← hs2]; exact Heap.size_push ..
  clear hs2
  refine wpAny_newObj_type (wpAny_newFunctionEnv hcell (by intro y hy; simp at hy) (fun h₁ hns₁ hsb₁ => ?_) hkind)
  dsimp only at hns₁ hsb₁ ⊢
  generalize hH2 : s₂.heap.push { cls := .type "list", dict := none, data := .seq ([] : List Value).toArray } = H2 at hns₁ hsb₁ ⊢
  have hC : H2.objs.size = s₂.heap.objs.size + 1 := by rw [← hH2, Heap.size_push]
  have n1 : s₁.heap.get? s₁.heap.objs.size = none := Heap.get?_none_of_le (Nat.le_refl _)
  have nD : s₁.heap.get? s₂.heap.objs.size = none := Heap.get?_none_of_le (by omega)
  have nC : s₁.heap.get? H2.objs.size = none := Heap.get?_none_of_le (by omega)
  have nC2 : s₂.heap.get? H2.objs.size = none := Heap.get?_none_of_le (by omega)
  have bI := none_of_stays hS n1
  have bD := none_of_stays hS nD
  have bC := none_of_stays hS nC
  have dDC : s₂.heap.objs.size ≠ H2.objs.size := by omega
  have dIC : s₁.heap.objs.size ≠ H2.objs.size := by omega
  have dID : s₁.heap.objs.size ≠ s₂.heap.objs.size := by omega
  have keep2 : ∀ b o, s₂.heap.get? b = some o → h₁.get? b = some o := fun b o e => hsb₁.extBut b o (fun q => by rw [q, nC2] at e; cases e) (Heap.get?_push_of_some _ (hH2 ▸ Heap.get?_push_of_some _ e))
  have hacc : h₁.PlainList s₂.heap.objs.size #[] := ⟨_, hsb₁.extBut _ _ dDC (Heap.get?_push_of_some _ (hH2 ▸ Heap.get?_push_size _ rfl))⟩
  have g3 : Go B [] s₂ { s₂ with heap := h₁, toks := s₂.toks + ([] : List (Str × Value)).length } := Go.keep keep2
  generalize hs3 : ({ s₂ with heap := h₁, toks := s₂.toks + ([] : List (Str × Value)).length } : Shared) = s₃ at g3
  have hacc3 : s₃.heap.PlainList s₂.heap.objs.size #[] := by rw [← hs3]; exact hacc
  have hns3 : ∃ m, s₃.heap.Ns H2.objs.size m := by rw [← hs3]; exact ⟨_, hns₁⟩
  have hit3 := g3.listIter (by simp) hit2
  clear hs3 hacc hns₁ keep2 hsb₁ hit2
  generalize s₂.heap.objs.size = D at *
  generalize H2.objs.size = C at *
  generalize s₁.heap.objs.size = I at *
  have loop : codeAny (model prog w) A (.compLoop (.ListComp (.Name x px) [⟨.Name x px', iter, [c], 0⟩] scope pos) 0 (.ref I) (.ref D) (compEnvC scope cl C env)) (compPost (model prog w) A E none Q (.ref D) C) s₃ := by
    refine codeAny_compLoop_tests (fun k s' => ∃ i m ys, k = vs.length + 1 - i ∧ i ≤ vs.length ∧ Go B [] s₁ s' ∧ s'.heap.IsListIter I l i ∧ s'.heap.PlainList D (List.toArray ys) ∧ TupsAt s'.heap ys ((ps.take i).filter keep) ∧ s'.heap.Ns C m) ?_ (vs.length + 1) ?_
    · rintro k s' ⟨i, m, ys, rfl, hi, g, hit, hp, hy, hn⟩
      have hl' := g.isList (by simp) hl
      have hT' := hT.go g .nil
      by_cases hlt : i < vs.length
      · have hxi : vs.toArray[i]? = some vs[i] := by simp [hlt]
        obtain ⟨p, hpi, hvp⟩ := hT'.get (List.getElem?_eq_getElem hlt)
        refine wpAny_pyNext_list_item hit hl' hxi fun h' hit' hsb => ?_
        have ga : Go B [I] s' { s' with heap := h' } := Go.but (tk := s'.toks) (fun b o hb e => (hsb.2 b hb).trans e) bI
        have gb : Go B [] s₁ { s' with heap := h' } := g.drop1 ga n1
        have hna := ga.ns (by simpa using Ne.symm dIC) hn
        have hpa := ga.plain (by simpa using Ne.symm dID) hp
        have nsI : NoSeq s'.heap [I] := by
          intro a ha o e
          rw [List.mem_singleton.mp ha] at e
          obtain ⟨o', e', hc', hd'⟩ := hit
          rw [e'] at e; cases e
          intro xs n q
          rw [hd'] at q; cases q
        have hya := hy.go ga nsI.tup
        refine wpAny_assign_Name (wpAny_storeName_local (lookup_relabel_local hx) hna (fun h₂ hn₂ hs₂ => ?_) (by simp [compEnvC, relabel, hkind]))
        have gc : Go B [C] { s' with heap := h' } { s' with heap := h₂, toks := s'.toks + 1 } := Go.but (fun b o hb e => (hs₂.2 b hb).trans e) bC
        have gd : Go B [] s₁ { s' with heap := h₂, toks := s'.toks + 1 } := gb.drop1 gc nC
        have hpc := gc.plain (by simpa using dDC) hpa
        have hyc := hya.go gc (NoSeq.ns hna).tup
        have hitc := gc.listIter (by simpa using dIC) hit'
        have hvc := (hvp.go ga nsI.tup).go gc (NoSeq.ns hna).tup
        refine wpAny_tests_one (wpAny_mono (htest C _ _ vs[i] p _ gd hn₂ (by simp) hvc (List.mem_of_getElem? hpi)) (fun ok s₄ h₄ => ?_) fun _ _ e => e)
        obtain ⟨rfl, ge⟩ := h₄
        have ftake : (ps.take (i + 1)).filter keep = (ps.take i).filter keep ++ (if keep p then [p] else []) := take_succ_filter keep ps i p hpi
        have hne := ge.ns (by simp) hn₂
        have hpe := ge.plain (by simp) hpc
        have hye := hyc.go ge .nil
        have hite := ge.listIter (by simp) hitc
        by_cases hk : keep p = true
        · rw [if_pos hk]
          refine wpAny_Name (wpAny_loadName_local (by simp [compEnvC, relabel, hkind]) (lookup_relabel_local hx) hne (if_pos rfl) ?_) hdb
          have hyl : ys.length ≤ vs.length := by
            have e1 := hye.length
            have e2 : ((ps.take i).filter keep).length ≤ (ps.take i).length := List.length_filter_le _ _
            have e3 := hT.length
            have e4 : (ps.take i).length ≤ ps.length := by simp; omega
            omega
          refine wpAny_list_append_plain hpe (fun h₅ hp₅ hs₅ => ?_) (by rw [List.size_toArray, sizeLine_eq]; omega)
          have gf : Go B [D] s₄ { s₄ with heap := h₅ } := Go.but (tk := s₄.toks) (fun b o hb e => (hs₅.2 b hb).trans e) bD
          have ntD := NoTup.list hpe.isList
          refine ⟨_, by omega, i + 1, _, ys ++ [vs[i]], rfl, hlt, (gd.trans ge).drop1 gf nD, gf.listIter (by simpa using dID) hite, by simpa using hp₅, ?_, gf.ns (by simpa using Ne.symm dDC) hne⟩
          rw [ftake, if_pos hk]
          exact (hye.go gf ntD).append (.one ((hvc.go ge .nil).go gf ntD))
        · rw [if_neg hk]
          refine ⟨_, by omega, i + 1, _, ys, rfl, hlt, gd.trans ge, hite, hpe, ?_, hne⟩
          rw [ftake, if_neg hk, List.append_nil]
          exact hye
      · have hieq : i = vs.length := by omega
        have hxi : vs.toArray[i]? = none := by simp [hieq]
        refine wpAny_pyNext_list_end hA hit hl' hxi fun h' hext => ?_
        have ga : Go B [I] s' { s' with heap := h' } := Go.but (tk := s'.toks) hext bI
        have nsI : NoSeq s'.heap [I] := by
          intro a ha o e
          rw [List.mem_singleton.mp ha] at e
          obtain ⟨o', e', hc', hd'⟩ := hit
          rw [e'] at e; cases e
          intro xs n q
          rw [hd'] at q; cases q
        refine ⟨_, ga.ns (by simpa using Ne.symm dIC) hn, fun h'' hs'' => ?_⟩
        have hna := ga.ns (by simpa using Ne.symm dIC) hn
        have gb : Go B [C] { s' with heap := h' } { s' with heap := h'' } := Go.but (s := { s' with heap := h' }) (tk := s'.toks) (fun b o hb e => (hs''.2 b hb).trans e) bC
        refine hq _ D ys ((g.drop1 ga n1).drop1 gb nC) nD (gb.plain (by simpa using dDC) (ga.plain (by simpa using Ne.symm dID) hp)) ?_
        have hyy := (hy.go ga nsI.tup).go gb (NoSeq.ns hna).tup
        rwa [hieq, hT.length, List.take_length] at hyy
    · obtain ⟨m, hns3⟩ := hns3
      exact ⟨0, m, [], rfl, Nat.zero_le _, g2.trans g3, hit3, hacc3, trivial, hns3⟩
  exact codeAny_compStart_list loop (wpAny_pyIter_listiter hit3 loop)
end
end Mine

namespace Mine

/-! the class and its one object -/
def initS : Stmt := (bodyOf (stmtAt 5)).getD 0 (.Pass ⟨0, 0, 0, 0⟩)

structure Mgr (K : Frag) (B : Heap) (C fI fS : Addr) (cdI : Value) : Prop where
  inB : K.In B
  makes : makesIn K C = true
  init : findIn K (.ref C) "__init__" = some (some (.ref fI))
  fn : typeIn K (.ref fI) = some (.type "function")
  code : FnAt B fI (Str.ofString "HTTPPasswordMgr.__init__") initS cdI
  set : findIn K (.ref C) "__setattr__" = some (some (.builtin "object.__setattr__"))
  over : plainOver K C = true
  taker : takerIn K C (Str.ofString "passwd") = some none
  has : hasDictIn K C = true
  ga : findIn K (.ref C) "__getattribute__" = some (some (.builtin "object.__getattribute__"))
  gk : findIn K (.ref C) "__getattr__" = some none
  sub : findIn K (.ref C) (Str.ofString "is_suburi") = some (some (.ref fS))
  sfn : typeIn K (.ref fS) = some (.type "function")

def MgrAt (h : Heap) (C x dx : Addr) : Prop := ∃ od, h.get? x = some (instObj C dx) ∧ h.get? dx = some od ∧ lookIn (Str.ofString "is_suburi") od = some none

theorem look_data {o o' : Obj} {name : Str} (h : o'.data = o.data) : lookIn name o' = lookIn name o := by unfold lookIn; rw [h]
theorem MgrAt.go {B : Heap} {X : List Addr} {s s' : Shared} {C x dx : Addr} (x0 : MgrAt s.heap C x dx) (g : Go B X s s') (hx : x ∉ X) (hd : dx ∉ X) : MgrAt s'.heap C x dx := by
  obtain ⟨od, e1, e2, e3⟩ := x0
  obtain ⟨od', e4, u⟩ := g.ext dx od hd e2
  exact ⟨od', g.exact hx e1 (fun es ep q => by cases q), e4, by rw [look_data u.data, e3]⟩

theorem getL_pw {h : Int} {t : Tok} {v : Value} : getL (Str.ofString "is_suburi") [⟨h, .str (Str.ofString "passwd") t, v⟩] = some none := by
  have e : (Value.str (Str.ofString "passwd") t).isStr (Str.ofString "is_suburi") = false := by
    with_unfolding_all rfl
  unfold getL
  rw [List.find?_cons]
  dsimp only
  rw [e]
  rfl

section
variable {prog : Program} {w : World} {A : Around} {E : Value → Shared → Prop} {s : Shared} {B : Heap} {K : Frag} {C fI fS : Addr} {cdI : Value}

theorem mgr_method {x dx : Addr} {pl : Sem Bool} {Q : Value × List Value → Shared → Prop} (Y : Mgr K B C fI fS cdI) (hS : B.StaysIn s.heap) (X : MgrAt s.heap C x dx) (h : Q (.ref fS, [.ref x]) s) :
    wpAny (model prog w) A (getMethod (.ref x) (Str.ofString "is_suburi") pl) Q E s := by
  obtain ⟨od, e1, e2, e3⟩ := X
  exact method_fn (od := some od) (Y.inB.keeps hS) ⟨e1, rfl, rfl, e2⟩ Y.ga Y.gk Y.sub Y.sfn (by show (lookIn _ od).map _ = _; rw [e3]; rfl) h

theorem mgr_call {Q : Value → Shared → Prop} (Y : Mgr K B C fI fS cdI) (hS : B.StaysIn s.heap) (hlim : B.NoLimit) (hroom : A.depth + 1 < recursionLimit)
    (h : ∀ s' x dx, Go B [] s s' → s.heap.get? x = none → s.heap.get? dx = none → x ≠ dx → MgrAt s'.heap C x dx → Q (.ref x) s') :
    wpAny (model prog w) A (call (.ref C) []) Q E s := by
  obtain ⟨hh, g, d, t, os⟩ := s
  refine wpAny_call (make_core (makes_of (Y.inB.keeps hS) Y.makes) (looks_findIn (Y.inB.keeps hS) Y.init) (fun self => bind_fn (Y.inB.keeps hS) self Y.fn) (.inl rfl) ?_)
  have k1 : ∀ b o, hh.get? b = some o → ((hh.push emptyDict).push (instObj C hh.objs.size)).get? b = some o := fun b o e => Heap.get?_push_of_some _ (Heap.get?_push_of_some _ e)
  have hx : ((hh.push emptyDict).push (instObj C hh.objs.size)).get? (hh.objs.size + 1) = some (instObj C hh.objs.size) := by heap_get
  have hdx : ((hh.push emptyDict).push (instObj C hh.objs.size)).get? hh.objs.size = some emptyDict := by heap_get
  have hsz : ((hh.push emptyDict).push (instObj C hh.objs.size)).objs.size = hh.objs.size + 2 := by simp [Heap.size_push]
  generalize (hh.push emptyDict).push (instObj C hh.objs.size) = h1 at *
  have hS1 : B.StaysIn h1 := fun b o e => k1 b o (hS b o e)
  obtain ⟨⟨o, name, doc, pm, an, ct, ho, hd⟩, hcd⟩ := Y.code
  refine codeAny_call_def (body := bodyOf initS) (binds := [(Str.ofString "self", .ref (hh.objs.size + 1))]) hroom (hS1 _ _ ho) hd (hlim.keeps hS1) (hcd.keeps hS1) rfl (.of_eq (by with_unfolding_all rfl)) (show ∀ x ∈ (scopeOf initS).names, x.2 ≠ .cell by decide) (by
    intro z hz
    rw [List.mem_singleton.mp hz]; with_unfolding_all rfl) (fun h₂ hns hk₂ => ?_) (by with_unfolding_all rfl) (by with_unfolding_all rfl) (by with_unfolding_all rfl)
  have hF : Fr hh h1.objs.size h₂ (fun x => [(Str.ofString "self", Value.ref (hh.objs.size + 1))].reverse.lookup x) := ⟨hns, fun b o e => hk₂ b o (k1 b o e), by omega⟩
  have eX := hk₂ _ _ hx
  have eD := hk₂ _ _ hdx
  refine wpAny_execs_cons (plainObj_wpAny_Assign_Attribute (wpAny_Dict_empty ?_) (by with_unfolding_all rfl))
  have hF3 := hF.push { cls := .type "dict", data := .dict #[] }
  have N3 : News hh h1.objs.size (h₂.push { cls := .type "dict", data := .dict #[] }) [(hh.objs.size, dictOf [] 0), (hh.objs.size + 1, instObj C hh.objs.size)] := by
    intro p hp
    rcases List.mem_cons.mp hp with rfl | hp
    · exact ⟨Heap.get?_push_of_some _ eD, by rw [hsz]; simp, Heap.get?_none_of_le (Nat.le_refl _)⟩
    · rw [List.mem_singleton.mp hp]
      exact ⟨Heap.get?_push_of_some _ eX, by rw [hsz]; simp, Heap.get?_none_of_le (Nat.le_succ _)⟩
  refine wpAny_Name (wpAny_loadName_local (by with_unfolding_all rfl) (by with_unfolding_all rfl) hF3.ns (v := .ref (hh.objs.size + 1)) (by with_unfolding_all rfl) ?_) (by decide)
  have hS3 : B.StaysIn (h₂.push { cls := .type "dict", data := .dict #[] }) := fun b o e => hF3.keep b o (hS b o e)
  refine set_plain (Y.inB.keeps hS3) (od := some (dictOf [] 0)) ⟨Heap.get?_push_of_some _ eX, rfl, rfl, Heap.get?_push_of_some _ eD⟩ Y.set ?_
  refine osa_dict (pre := []) (od := dictOf [] 0) (es := [⟨_, _, _⟩]) (n := 1) hF3 N3 (Y.inB.keeps hS3) ⟨Heap.get?_push_of_some _ eX, rfl, rfl, Heap.get?_push_of_some _ eD⟩ rfl Y.over Y.taker Y.has rfl (by simp) (by simp) (putName_dict ..) rfl (Nat.le_of_ble_eq_true rfl) fun h' F' N' => ?_
  refine wpAny_execs_nil (And.intro rfl ?_)
  refine h _ _ hh.objs.size (Go.keep (s := ⟨hh, g, d, t, os⟩) F'.keep) (Heap.get?_none_of_le (Nat.le_succ _)) (Heap.get?_none_of_le (Nat.le_refl _)) (by simp) ⟨_, (N' (_, _) (.tail _ (.head _))).1, (N' (_, _) (.head _)).1, ?_⟩
  rw [lookIn_dict]
  exact getL_pw
end
end Mine

namespace Mine

abbrev T (x : Str) : List Nat := x.cps.toList
theorem T_len (x : Str) : (T x).length = x.length := Array.length_toList
theorem T_app (x y : Str) : T (x ++ y) = T x ++ T y := KT.app_list x y

theorem starts_iff {x y : Str} : Txt.startswith x y = true ↔ T y <+: T x := by
  have lx := T_len x
  have ly := T_len y
  unfold Txt.startswith
  rw [StrLaws.subAt_eq, List.drop_zero, Bool.and_eq_true, decide_eq_true_eq, Nat.zero_add]
  constructor
  · rintro ⟨h1, h2⟩
    rw [beq_iff_eq] at h2
    rw [show T y = _ from h2.symm]
    exact List.take_prefix _ _
  · intro h
    have hl := h.length_le
    refine ⟨by omega, ?_⟩
    rw [beq_iff_eq]
    have := List.prefix_iff_eq_take.mp h
    rw [← ly]; exact this.symm

theorem idx_last {n : Nat} (h : 0 < n) : Builtin.Str.strSliceIndices (some (-1)) none 1 n = [n - 1] := by
  unfold Builtin.Str.strSliceIndices sliceRange
  simp only [show (1 : Int) > 0 by decide, if_true]
  have e1 : max 0 (min ((if (-1 : Int) < 0 then -1 + (n : Int) else -1)) (n : Int)) = (n : Int) - 1 := by
    rw [if_pos (by decide)]; omega
  rw [e1, if_pos (by omega)]
  have e2 : (((n : Int) - ((n : Int) - 1) + 1 - 1) / 1).toNat = 1 := by omega
  rw [e2]
  simp [List.range_succ]
theorem idx_init {n : Nat} : Builtin.Str.strSliceIndices none (some (-1)) 1 n = List.range (n - 1) := by
  unfold Builtin.Str.strSliceIndices sliceRange
  simp only [show (1 : Int) > 0 by decide, if_true]
  have e1 : max 0 (min ((if (-1 : Int) < 0 then -1 + (n : Int) else -1)) (n : Int)) = ((n - 1 : Nat) : Int) := by
    rw [if_pos (by decide)]; omega
  rw [e1]
  have e2 : (if (0 : Int) < ((n - 1 : Nat) : Int) then (((n - 1 : Nat) : Int) - 0 + 1 - 1) / 1 else 0).toNat = n - 1 := by
    split <;> omega
  rw [e2]
  conv => rhs; rw [← List.map_id (List.range (n - 1))]
  refine List.map_congr_left fun k _ => ?_
  simp
theorem getOpt_range {α : Type} (l : List α) : ∀ n, n ≤ l.length → (List.range n).filterMap (l[·]?) = l.take n
  | 0, _ => by simp
  | n + 1, h => by
    rw [List.range_succ, List.filterMap_append, getOpt_range l n (by omega), List.take_add_one]
    congr 1

theorem slice_last (x : Str) : T (Txt.slice x (some (-1)) none) = (T x).drop (x.length - 1) := by
  have lx := T_len x
  unfold Txt.slice
  by_cases h0 : x.length = 0
  · rw [h0]
    have : T x = [] := List.eq_nil_of_length_eq_zero (by omega)
    split
    · simp
    · rename_i hc
      exact absurd (by decide +kernel) hc
  rw [idx_last (by omega)]
  split
  · rename_i h
    have : 1 = x.length := by simpa using h
    rw [← this]; simp
  · show List.filterMap _ [x.length - 1] = _
    rw [show (T x).drop (x.length - 1) = [(T x)[x.length - 1]'(by omega)] from ?_]
    · have e : x.cps[x.length - 1]? = some (x.cps[x.length - 1]'(by show x.length - 1 < x.length; omega)) := Array.getElem?_eq_getElem _
      rw [List.filterMap_cons_some e]; simp [T]
    · rw [List.drop_eq_getElem_cons (by omega), List.drop_eq_nil_of_le (by omega)]
theorem slice_init (x : Str) : T (Txt.slice x none (some (-1))) = (T x).take (x.length - 1) := by
  have lx := T_len x
  unfold Txt.slice
  rw [idx_init]
  split
  · rename_i h
    have h : x.length - 1 = x.length := by simpa using h
    rw [h, ← lx, List.take_length]
  · show List.filterMap _ (List.range _) = _
    rw [← getOpt_range _ _ (by omega)]
    simp [T]
end Mine

namespace Mine

def stemS (x : Str) : Str := if Txt.slice x (some (-1)) none = slashS then Txt.slice x none (some (-1)) else x
theorem T_slash : T slashS = [47] := by decide +kernel
theorem T_slash' : T (Str.ofString "/") = [47] := by decide +kernel
theorem T_zero : T (Str.ofString "0") = [48] := by decide +kernel

theorem pre_stem (x : Str) : T (preS x) = T (stemS x) ++ [47] := by
  unfold preS stemS
  by_cases h : Txt.slice x (some (-1)) none = slashS
  · rw [if_pos h, if_pos h, slice_init, ← T_slash, ← h, slice_last, List.take_append_drop]
  · rw [if_neg h, if_neg h, T_app, T_slash]

theorem between : ∀ (s q : List Nat), (¬ q < s ++ [47]) ∧ q < s ++ [48] ↔ s ++ [47] <+: q
  | [], [] => by simp
  | [], a :: r => by
    simp only [List.nil_append, List.cons_lt_cons_iff, List.not_lt_nil, and_false, or_false]
    constructor
    · rintro ⟨h1, h2⟩
      have : a = 47 := by omega
      subst this
      exact ⟨r, rfl⟩
    · rintro ⟨t, e⟩
      simp only [List.singleton_append, List.cons.injEq] at e
      omega
  | c :: s, [] => by simp
  | c :: s, a :: r => by
    have ih := between s r
    simp only [List.cons_append, List.cons_lt_cons_iff, List.cons_prefix_cons]
    constructor
    · rintro ⟨h1, h2⟩
      have hac : a = c := by
        rcases h2 with h2 | h2
        · exact absurd (.inl h2) h1
        · exact h2.1
      subst hac
      refine ⟨rfl, ih.mp ⟨fun h => h1 (.inr ⟨rfl, h⟩), ?_⟩⟩
      rcases h2 with h2 | h2
      · omega
      · exact h2.2
    · rintro ⟨rfl, h⟩
      have := ih.mpr h
      refine ⟨?_, .inr ⟨rfl, this.2⟩⟩
      rintro (h' | h')
      · omega
      · exact this.1 h'.2

theorem cmp_one {p q : Pr} : cmpI p q = 1 ↔ plt q p = true := by
  unfold cmpI
  cases h : plt q p with
  | true => rw [plt_asymm h]; simp
  | false => cases plt p q <;> simp
theorem cmp_neg {p q : Pr} : cmpI p q = -1 ↔ plt p q = true := by
  unfold cmpI
  cases h : plt p q with
  | true => rw [plt_asymm h]; simp
  | false => cases plt q p <;> simp

def inB (p q : Pr) : Bool := !decide (cmpI (p.1, stemS p.2 ++ Str.ofString "/") q = 1) && decide (cmpI q (p.1, stemS p.2 ++ Str.ofString "0") = -1)
def dueB (p q : Pr) : Bool := decide (q = p) || inB p q

theorem inB_iff {p q : Pr} : inB p q = true ↔ p.1 = q.1 ∧ T (preS p.2) <+: T q.2 := by
  unfold inB
  rw [Bool.and_eq_true, decide_eq_true_eq, Bool.not_eq_true', decide_eq_false_iff_not, cmp_one, cmp_neg, pre_stem, ← between]
  unfold plt
  by_cases h : q.1 = p.1
  · simp only [h, if_true, true_and, ltS, decide_eq_true_eq]
    have e1 := T_app (stemS p.2) (Str.ofString "/")
    have e2 := T_app (stemS p.2) (Str.ofString "0")
    rw [T_slash'] at e1
    rw [T_zero] at e2
    rw [show (stemS p.2 ++ Str.ofString "/").cps.toList = _ from e1, show (stemS p.2 ++ Str.ofString "0").cps.toList = _ from e2]
  · simp only [if_neg h]
    constructor
    · rintro ⟨h1, h2⟩; exact absurd h2 h1
    · rintro ⟨h1, _⟩; exact absurd h1.symm h
theorem isSub_iff {p q : Pr} : isSub p q = true ↔ p = q ∨ (p.1 = q.1 ∧ T (preS p.2) <+: T q.2) := by
  unfold isSub
  rw [Bool.or_eq_true, decide_eq_true_eq, Bool.and_eq_true, decide_eq_true_eq, starts_iff]
theorem due_isSub (p q : Pr) : dueB p q = isSub p q := by
  rw [Bool.eq_iff_iff, isSub_iff]
  unfold dueB
  rw [Bool.or_eq_true, decide_eq_true_eq, inB_iff]
  constructor
  · rintro (h | h)
    · exact .inl h.symm
    · exact .inr h
  · rintro (h | h)
    · exact .inl h.symm
    · exact .inr h

theorem pre_up (x : Str) : T x <+: T (preS x) := by
  unfold preS
  split
  · exact List.prefix_rfl
  · rw [T_app]; exact List.prefix_append _ _
theorem isSub_refl (p : Pr) : isSub p p = true := isSub_iff.mpr (.inl rfl)
theorem isSub_trans {a b c : Pr} (h1 : isSub a b = true) (h2 : isSub b c = true) : isSub a c = true := by
  rw [isSub_iff] at *
  rcases h1 with rfl | ⟨e1, p1⟩
  · exact h2
  rcases h2 with rfl | ⟨e2, p2⟩
  · exact .inr ⟨e1, p1⟩
  · exact .inr ⟨e1.trans e2, p1.trans ((pre_up _).trans p2)⟩

theorem half {a b : Pr} (e : a.1 = b.1) (h : T (preS a.2) <+: T (preS b.2)) : isSub a b = true ∨ isSub b a = true := by
  by_cases hb : preS b.2 = b.2
  · rw [hb] at h
    exact .inl (isSub_iff.mpr (.inr ⟨e, h⟩))
  have eb : preS b.2 = b.2 ++ slashS := by
    unfold preS at hb ⊢
    split
    · rename_i hs; rw [if_pos hs] at hb; exact absurd rfl hb
    · rfl
  rw [eb, T_app, T_slash] at h
  rcases List.prefix_concat_iff.mp h with h | h
  · -- the same
    by_cases ha : preS a.2 = a.2
    · refine .inr (isSub_iff.mpr (.inr ⟨e.symm, ?_⟩))
      rw [eb, T_app, T_slash, ← h, ha]
      exact List.prefix_rfl
    have ea : preS a.2 = a.2 ++ slashS := by
      unfold preS at ha ⊢
      split
      · rename_i hs; rw [if_pos hs] at ha; exact absurd rfl ha
      · rfl
    rw [ea, T_app, T_slash] at h
    have : a.2 = b.2 := strExt (List.append_cancel_right h)
    exact .inl (isSub_iff.mpr (.inl (Prod.ext e this)))
  · exact .inl (isSub_iff.mpr (.inr ⟨e, h⟩))
theorem meet {a b c : Pr} (h1 : isSub a c = true) (h2 : isSub b c = true) : isSub a b = true ∨ isSub b a = true := by
  rcases isSub_iff.mp h1 with rfl | ⟨e1, p1⟩
  · exact .inr h2
  rcases isSub_iff.mp h2 with rfl | ⟨e2, p2⟩
  · exact .inl h1
  rcases List.prefix_or_prefix_of_prefix p1 p2 with h | h
  · exact half (e1.trans e2.symm) h
  · exact (half (e2.trans e1.symm) h).symm

/-! the two differences -/
theorem all_above {a : Pr} {l : List Pr} {b : Pr} (h : plt a b = true) (hl : (b :: l).Pairwise (fun p q => plt p q = true)) : a ∉ b :: l := by
  intro hm
  rcases List.mem_cons.mp hm with rfl | hm
  · rw [plt_irrefl] at h; cases h
  · have := plt_trans h ((List.pairwise_cons.mp hl).1 a hm)
    rw [plt_irrefl] at this; cases this
theorem not_head {a : Pr} {l : List Pr} (hl : (a :: l).Pairwise (fun p q => plt p q = true)) : a ∉ l := fun hm => by
  have := (List.pairwise_cons.mp hl).1 a hm
  rw [plt_irrefl] at this; cases this
theorem sld_filters : ∀ (es as : List Pr), es.Pairwise (fun p q => plt p q = true) → as.Pairwise (fun p q => plt p q = true) → sld es as = (es.filter (fun p => !decide (p ∈ as)), as.filter (fun p => !decide (p ∈ es))) := by
  refine sld_ind ?_ ?_ ?_ ?_ ?_
  · intro bs _ _; rw [sld_nil]; exact Prod.ext rfl (List.filter_eq_self.mpr fun c _ => by simp).symm
  · intro a as _ _; rw [sld_nil']; exact Prod.ext (show a :: as = List.filter (fun p => !decide (p ∈ ([] : List Pr))) (a :: as) from (List.filter_eq_self.mpr fun c _ => by simp).symm) rfl
  · intro a as b bs hab ih h1 h2
    rw [sld_cc, if_pos hab, ih (List.pairwise_cons.mp h1).2 h2]
    have ha := all_above hab h2
    refine Prod.ext ?_ ?_
    · exact (List.filter_cons_of_pos (by simpa using ha)).symm
    · show List.filter _ _ = List.filter _ _
      refine List.filter_congr fun c hc => ?_
      have : c ≠ a := fun e => ha (e ▸ hc)
      simp [this]
  · intro a as b bs hab hba ih h1 h2
    rw [sld_cc, if_neg hab, if_pos hba, ih h1 (List.pairwise_cons.mp h2).2]
    have hb := all_above hba h1
    refine Prod.ext ?_ ?_
    · show List.filter _ _ = List.filter _ _
      refine List.filter_congr fun c hc => ?_
      have : c ≠ b := fun e => hb (e ▸ hc)
      simp [this]
    · exact (List.filter_cons_of_pos (by simpa using hb)).symm
  · intro a as b bs hab hba ih h1 h2
    have e : a = b := by
      refine Decidable.byContradiction fun hne => hba (plt_tot hne (by simpa using hab))
    subst e
    rw [sld_cc, if_neg hab, if_neg hba, ih (List.pairwise_cons.mp h1).2 (List.pairwise_cons.mp h2).2]
    refine Prod.ext ?_ ?_
    · show List.filter _ _ = List.filter _ _
      rw [List.filter_cons_of_neg (by simp)]
      refine List.filter_congr fun c hc => ?_
      have : c ≠ a := fun e => not_head h1 (e ▸ hc)
      simp [this]
    · show List.filter _ _ = List.filter _ _
      rw [List.filter_cons_of_neg (by simp)]
      refine List.filter_congr fun c hc => ?_
      have : c ≠ a := fun e => not_head h2 (e ▸ hc)
      simp [this]

/-! the law's three cases -/
def bel (ps : List Pr) (p : Pr) : List Pr := ps.filter (isSub p)
theorem bel_rise {ps : List Pr} {p : Pr} (h : ps.Pairwise (fun p q => plt p q = true)) : (bel ps p).Pairwise (fun p q => plt p q = true) := h.sublist List.filter_sublist
theorem mem_bel {ps : List Pr} {p q : Pr} : q ∈ bel ps p ↔ q ∈ ps ∧ isSub p q = true := List.mem_filter
theorem told_up {ps : List Pr} {p q : Pr} (h : ps.Pairwise (fun p q => plt p q = true)) (hs : isSub q p = true) :
    sld (bel ps p) (bel ps q) = ([], (bel ps q).filter fun c => !decide (c ∈ bel ps p)) := by
  rw [sld_filters _ _ (bel_rise h) (bel_rise h)]
  refine Prod.ext ?_ rfl
  refine List.filter_eq_nil_iff.mpr fun c hc => ?_
  obtain ⟨h1, h2⟩ := mem_bel.mp hc
  simp [mem_bel.mpr ⟨h1, isSub_trans hs h2⟩]
theorem told_down {ps : List Pr} {p q : Pr} (h : ps.Pairwise (fun p q => plt p q = true)) (hs : isSub p q = true) :
    sld (bel ps p) (bel ps q) = ((bel ps p).filter (fun c => !decide (c ∈ bel ps q)), []) := by
  rw [sld_filters _ _ (bel_rise h) (bel_rise h)]
  refine Prod.ext rfl ?_
  refine List.filter_eq_nil_iff.mpr fun c hc => ?_
  obtain ⟨h1, h2⟩ := mem_bel.mp hc
  simp [mem_bel.mpr ⟨h1, isSub_trans hs h2⟩]
theorem told_off {ps : List Pr} {p q : Pr} (h : ps.Pairwise (fun p q => plt p q = true)) (h1 : isSub q p = false) (h2 : isSub p q = false) :
    sld (bel ps p) (bel ps q) = (bel ps p, bel ps q) := by
  rw [sld_filters _ _ (bel_rise h) (bel_rise h)]
  have no : ∀ c, c ∈ bel ps p → c ∈ bel ps q → False := fun c x y => by
    rcases meet (mem_bel.mp x).2 (mem_bel.mp y).2 with z | z
    · rw [h2] at z; cases z
    · rw [h1] at z; cases z
  refine Prod.ext ?_ ?_
  · exact List.filter_eq_self.mpr fun c hc => by simpa using fun x => no c hc x
  · exact List.filter_eq_self.mpr fun c hc => by simpa using fun x => no c x hc
end Mine

namespace Mine

abbrev lawEnv (L f : Addr) (cd : Value) : Env := envOfC (Str.ofString "law") (scopeOf lawS) L f cd

section
variable {L f : Addr} {cd : Value}
theorem wk : (scopeOf lawS).kind = .function := by with_unfolding_all rfl
theorem wk_row : (lawEnv L f cd).kindOf (Str.ofString "row") = some .local := by with_unfolding_all rfl
theorem wk_script : (lawEnv L f cd).kindOf (Str.ofString "script") = some .local := by with_unfolding_all rfl
theorem wk_stem : (lawEnv L f cd).kindOf (Str.ofString "stem") = some .local := by with_unfolding_all rfl
theorem wk_due : (lawEnv L f cd).kindOf (Str.ofString "due") = some .local := by with_unfolding_all rfl
theorem wk_one : (lawEnv L f cd).kindOf (Str.ofString "one") = some .local := by with_unfolding_all rfl
theorem wk_inside : (lawEnv L f cd).kindOf (Str.ofString "inside") = some .local := by with_unfolding_all rfl
theorem wk_told : (lawEnv L f cd).kindOf (Str.ofString "told") = some .local := by with_unfolding_all rfl
theorem wk_manager : (lawEnv L f cd).kindOf (Str.ofString "manager") = some .cell := by with_unfolding_all rfl
theorem wk_below : (lawEnv L f cd).kindOf (Str.ofString "below") = some .cell := by with_unfolding_all rfl
theorem wk_host : (lawEnv L f cd).kindOf (Str.ofString "host") = some .cell := by with_unfolding_all rfl
theorem wk_path : (lawEnv L f cd).kindOf (Str.ofString "path") = some .cell := by with_unfolding_all rfl
theorem wk_i : (lawEnv L f cd).kindOf (Str.ofString "i") = some .cell := by with_unfolding_all rfl
theorem wk_k : (lawEnv L f cd).kindOf (Str.ofString "k") = some .cell := by with_unfolding_all rfl
theorem wk_lr : (lawEnv L f cd).kindOf (Str.ofString "_law_row") = some .globalImplicit := by with_unfolding_all rfl
theorem wk_cls : (lawEnv L f cd).kindOf (Str.ofString "HTTPPasswordMgr") = some .globalImplicit := by with_unfolding_all rfl
theorem wk_cmp : (lawEnv L f cd).kindOf (Str.ofString "three_way_cmp") = some .globalImplicit := by with_unfolding_all rfl
theorem wk_sld : (lawEnv L f cd).kindOf (Str.ofString "sorted_list_difference") = some .globalImplicit := by with_unfolding_all rfl
theorem wk_range : (lawEnv L f cd).kindOf (Str.ofString "range") = some .globalImplicit := by with_unfolding_all rfl
theorem wk_len : (lawEnv L f cd).kindOf (Str.ofString "len") = some .globalImplicit := by with_unfolding_all rfl
theorem wc_manager : (lawEnv L f cd).cells.lookup (Str.ofString "manager") = some (L + 1) := by with_unfolding_all rfl
theorem wc_below : (lawEnv L f cd).cells.lookup (Str.ofString "below") = some (L + 2) := by with_unfolding_all rfl
theorem wc_host : (lawEnv L f cd).cells.lookup (Str.ofString "host") = some (L + 3) := by with_unfolding_all rfl
theorem wc_path : (lawEnv L f cd).cells.lookup (Str.ofString "path") = some (L + 4) := by with_unfolding_all rfl
theorem wc_i : (lawEnv L f cd).cells.lookup (Str.ofString "i") = some (L + 5) := by with_unfolding_all rfl
theorem wc_k : (lawEnv L f cd).cells.lookup (Str.ofString "k") = some (L + 6) := by with_unfolding_all rfl
end

section
variable {prog : Program} {w : World} {A : Around} {E : Value → Shared → Prop} {s : Shared} {B : Heap} {env : Env} {m mg mb : Str → Option Value} {x : Str} {pos : Pos} {v : Value} {c : Addr}
theorem ldE {Q : Value → Shared → Prop} (hn : s.heap.Ns env.locals m) (hv : m x = some v) (h : Q v s) (hk : env.scope.kind = .function) (hl : env.kindOf x = some .local)
    (hd : (x == ("__debug__" : Str)) = false := by decide) : wpAny (model prog w) A (eval (.Name x pos) env) Q E s := wpAny_Name (wpAny_loadName_local hk hl hn hv h) hd
theorem ldC {Q : Value → Shared → Prop} (hc : s.heap.IsCell c (some v)) (h : Q v s) (hk : env.scope.kind = .function) (hl : env.kindOf x = some .cell) (hx : env.cells.lookup x = some c)
    (hd : (x == ("__debug__" : Str)) = false := by decide) : wpAny (model prog w) A (eval (.Name x pos) env) Q E s := wpAny_Name (wpAny_loadName_cell hk hl hx hc h) hd
theorem stE {Q : Unit → Shared → Prop} (hn : s.heap.Ns env.locals m) (hB : B.get? env.locals = none)
    (h : ∀ s', Go B [env.locals] s s' → s'.heap.Ns env.locals (fun y => if y = x then some v else m y) → Q () s')
    (hk : env.scope.kind = .function) (hl : env.kindOf x = some .local) : wpAny (model prog w) A (storeName env x v) Q E s :=
  wpAny_storeName_local hl hn (fun h' hn' hs => h _ (Go.but (fun b o hb e => (hs.2 b hb).trans e) hB) hn') (by rw [hk]; rfl)
theorem stC {Q : Unit → Shared → Prop} {v₀ : Option Value} (hc : s.heap.IsCell c v₀) (hB : B.get? c = none)
    (h : ∀ s', Go B [c] s s' → s'.heap.IsCell c (some v) → Q () s')
    (hk : env.scope.kind = .function) (hl : env.kindOf x = some .cell) (hx : env.cells.lookup x = some c) : wpAny (model prog w) A (storeName env x v) Q E s :=
  wpAny_storeName_cell hk hl hx hc fun h' hc' hs => h _ (Go.but (tk := s.toks) (fun b o hb e => (hs.2 b hb).trans e) hB) hc'
theorem ldGl {Q : Value → Shared → Prop} (G : Gl B mg mb) (hS : B.StaysIn s.heap) (h1 : mg x = some v) (h : Q v s) (hk : env.scope.kind = .function) (hx : env.kindOf x = some .globalImplicit) (hg : env.globals = mainGlobals)
    (hd : (x == ("__debug__" : Str)) = false := by decide) : wpAny (model prog w) A (eval (.Name x pos) env) Q E s :=
  Calls.Name_function_global hk hx (Calls.loadGlobal_global (mg := mg) (by rw [hg]; exact G.g.keeps hS) h1 h) hd
theorem ldBu {Q : Value → Shared → Prop} (G : Gl B mg mb) (hS : B.StaysIn s.heap) (h1 : mg x = none) (h2 : mb x = some v) (h : Q v s) (hk : env.scope.kind = .function) (hx : env.kindOf x = some .globalImplicit) (hg : env.globals = mainGlobals) (hb : env.builtins = builtinsNs)
    (hd : (x == ("__debug__" : Str)) = false := by decide) : wpAny (model prog w) A (eval (.Name x pos) env) Q E s :=
  Calls.Name_function_global hk hx (Calls.loadGlobal_builtin (mg := mg) (by rw [hg]; exact G.g.keeps hS) h1 (by rw [hb]; exact G.b.keeps hS) h2 h) hd
end

/-! comparing two pairs of lists -/
section
variable {prog : Program} {w : World} {A : Around} {E : Value → Shared → Prop} {s : Shared} {Q : Value → Shared → Prop} {v u : Value} {R R' : List Pr × List Pr}
def pd2 (R : List Pr × List Pr) : PyData := .tuple [.list (R.1.map pd), .list (R.2.map pd)]
theorem PairAt.reads {h : Heap} (x : PairAt h v R) : ∃ as, Reads h v (pd2 R) as := by
  obtain ⟨a, o, n, l1, l2, rfl, e, hc, hd, h1, h2⟩ := x
  obtain ⟨as, r⟩ := h1.reads
  obtain ⟨bs, r'⟩ := h2.reads
  exact ⟨_, .tuple e hc hd (.cons r (.cons r' .nil))⟩
theorem canLay_pd2 (h1 : ∀ q ∈ R.1, Okp q) (h2 : ∀ q ∈ R.2, Okp q) : (pd2 R).canLay0 = true := by
  simp [pd2, PyData.canLay0, PyData.canLayAll0, canLayAll_pd h1, canLayAll_pd h2]
theorem eqv_pd2 : PyData.eqv (pd2 R) (pd2 R') = decide (R = R') := by
  obtain ⟨a, b⟩ := R
  obtain ⟨c, d⟩ := R'
  simp only [pd2, PyData.eqv, PyData.eqvAll, Bool.and_true, eqvAll_pd]
  by_cases h1 : a = c
  · by_cases h2 : b = d
    · simp [h1, h2]
    · simp [h1, h2]
  · simp [h1]
theorem depth_pd2 : (pd2 R).depth ≤ 3 := by
  have := depthAll_pd R.1
  have := depthAll_pd R.2
  simp only [pd2, PyData.depth, PyData.depthAll]; omega
theorem ne_two (x : PairAt s.heap v R) (y : PairAt s.heap u R') (h1 : ∀ q ∈ R.1, Okp q) (h2 : ∀ q ∈ R.2, Okp q) (h3 : ∀ q ∈ R'.1, Okp q) (h4 : ∀ q ∈ R'.2, Okp q) (hu : A.units + 64 < cLine) (h : Q (.bool (!decide (R = R'))) s) :
    wpAny (model prog w) A (compareOp .NotEq v u) Q E s := by
  obtain ⟨as, r⟩ := x.reads
  obtain ⟨bs, r'⟩ := y.reads
  refine PySem.SeqAt.compareNe_reads r r' (canLay_pd2 h1 h2) (canLay_pd2 h3 h4) ?_ (by rw [eqv_pd2]; exact h)
  have := depth_pd2 (R := R)
  have := depth_pd2 (R := R')
  omega
end
end Mine

namespace Mine

section
variable {prog : Program} {w : World} {A : Around} {E : Value → Shared → Prop} {s : Shared} {B : Heap} {env : Env}

/-- for x in range(n): body -/
theorem for_range {x : Str} {px : Pos} {body : List Stmt} {Q : Flow → Shared → Prop} {r : Addr} {n : Nat} {t0 u0 v0 : Tok} (X : List Addr) (K : Nat → Shared → Prop)
    (hA : A.handled = none) (hS : B.StaysIn s.heap) (hr : IsRange s.heap r 0 (n : Int) 1 t0 u0 v0) (hn : n ≤ 1000) (hX : ∀ x ∈ X, s.heap.get? x ≠ none)
    (hK : ∀ i s1 s2 a, K i s1 → Go B [a] s1 s2 → Fld s1.heap a → K i s2) (h0 : K 0 s)
    (turn : ∀ i t s1, i < n → Go B X s s1 → K i s1 → wpAny (model prog w) A (assign (.Name x px) env (.int (i : Int) t)) (fun _ s2 => wpAny (model prog w) A (execs body env) (fun f s3 => match f with
      | .next | .cont => Go B X s1 s3 ∧ K (i + 1) s3
      | .brk => Q .next s3
      | .ret v => Q (.ret v) s3) (fun _ _ => False) s2) (fun _ _ => False) s1)
    (done : ∀ s1, Go B X s s1 → K n s1 → Q .next s1) :
    wpAny (model prog w) A (pyIter (.ref r)) (fun it s2 => codeAny (model prog w) A (.forLoop (.Name x px) it body [] env) (fun r s' => match r with | .ok f => Q f s' | .error e => cameBackBy (model prog w) A env E e s') s2) E s := by
  refine wpAny_pyIter_range hr (small_one (by decide) (by decide) (by omega) (by omega)) ?_
  have hsz : Builtin.Range.rangeSize 0 (n : Int) 1 = (n : Int) := by rw [rangeSize_one]; split <;> omega
  rw [hsz]
  have hnn : s.heap.get? s.heap.objs.size = none := Heap.get?_none_of_le (Nat.le_refl _)
  have hB := none_of_stays hS hnn
  have hitX : s.heap.objs.size ∉ X := fun q => hX _ q hnn
  have g0 : Go B [] s { s with heap := s.heap.push { cls := .type "range_iterator", data := .fields #[rawInt 0, rawInt (n : Int), rawInt 1] } } := Go.push (s := s) (tk := s.toks) _
  have k0 := hK 0 s _ s.heap.objs.size h0 (g0.nil) (.none hnn)
  refine codeAny_forLoop_any (fun j s' => ∃ i, j = n - i ∧ i ≤ n ∧ Go B X s s' ∧ K i s' ∧ IsRangeIter s'.heap s.heap.objs.size (i : Int) ((n : Int) - i) 1) ?_ (n - 0) ⟨0, rfl, Nat.zero_le _, g0.nil, k0, by simpa using Heap.get?_push_size _ rfl⟩
  rintro j s' ⟨i, rfl, hi, g, k, hit⟩
  have hfld : Fld s'.heap s.heap.objs.size := fun o e => by
    rw [hit] at e; cases e; exact ⟨_, rfl⟩
  by_cases hlt : i < n
  · refine wpAny_pyNext_range_item hit (by omega) fun h' hit' hsb => ?_
    have g2 : Go B [s.heap.objs.size] s' { s' with heap := h', toks := s'.toks + 1 } := Go.but (fun b o hb e => (hsb.2 b hb).trans e) hB
    have g3 : Go B X s { s' with heap := h', toks := s'.toks + 1 } := g.drop1 g2 hnn
    have k3 := hK i s' _ _ k g2 hfld
    refine wpAny_pure ?_
    refine wpAny_mono (turn i s'.toks _ hlt g3 k3) (fun _ s2 h2 => wpAny_mono h2 (fun f s3 h3 => ?_) fun _ _ x => x.elim) fun _ _ x => x.elim
    have it3 : Go B X { s' with heap := h', toks := s'.toks + 1 } s3 → IsRangeIter s3.heap s.heap.objs.size ((i + 1 : Nat) : Int) ((n : Int) - (i + 1 : Nat)) 1 := fun g4 => by
      have := g4.exact hitX hit' (fun es ep q => by cases q)
      rw [show ((i + 1 : Nat) : Int) = (i : Int) + 1 by omega, show (n : Int) - ((i : Int) + 1) = (n : Int) - i - 1 by omega]
      exact this
    cases f with
    | next => exact ⟨n - (i + 1), by omega, i + 1, rfl, hlt, g3.trans h3.1, h3.2, it3 h3.1⟩
    | cont => exact ⟨n - (i + 1), by omega, i + 1, rfl, hlt, g3.trans h3.1, h3.2, it3 h3.1⟩
    | brk => exact h3
    | ret v => exact h3
  · have hieq : i = n := by omega
    refine wpAny_pyNext_range_end hA hit (by omega) fun h' hext => ?_
    have g2 : Go B [s.heap.objs.size] s' { s' with heap := h' } := Go.but (tk := s'.toks) hext hB
    have k3 := hK i s' _ _ k g2 hfld
    rw [hieq] at k3
    exact wpAny_execs_nil (done _ (g.drop1 g2 hnn) k3)
end

/-- the program's functions and names -/
structure Fns (K : Frag) (B : Heap) (mg mb : Str → Option Value) (C fI fS fR fC fD : Addr) (cdI cdS cdR cdC cdD : Value) : Prop where
  mgr : Mgr K B C fI fS cdI
  sub : FnAt B fS (Str.ofString "HTTPPasswordMgr.is_suburi") subS cdS
  row : FnAt B fR (Str.ofString "_law_row") rowS cdR
  cmp : FnAt B fC (Str.ofString "three_way_cmp") cmpS cdC
  sld : FnAt B fD (Str.ofString "sorted_list_difference") sldS cdD
  lim : B.NoLimit
  gl : Gl B mg mb
  gRow : mg (Str.ofString "_law_row") = some (.ref fR)
  gCls : mg (Str.ofString "HTTPPasswordMgr") = some (.ref C)
  gCmp : mg (Str.ofString "three_way_cmp") = some (.ref fC)
  gSld : mg (Str.ofString "sorted_list_difference") = some (.ref fD)
  nLen : mg (Str.ofString "len") = none
  bLen : mb (Str.ofString "len") = some (.builtin "len")
  nRange : mg (Str.ofString "range") = none
  bRange : mb (Str.ofString "range") = some (.type "range")
  nSorted : mg (Str.ofString "sorted") = none
  bSorted : mb (Str.ofString "sorted") = some (.builtin "sorted")
  nIE : mg (Str.ofString "IndexError") = none
  bIE : mb (Str.ofString "IndexError") = some (.type "IndexError")
  keep : keepIn K (.ref C) = true

/-- what stands around the law's body -/
structure Rm (A : Around) : Prop where
  room : A.depth + 8 < recursionLimit
  units : A.units + 128 < cLine
  handled : A.handled = none

section
variable {prog : Program} {w : World} {A : Around} {E : Value → Shared → Prop} {s : Shared} {B : Heap} {Fg : Frag} {mg mb : Str → Option Value} {C fI fS fR fC fD L f : Addr} {cdI cdS cdR cdC cdD cd : Value}

theorem stW {A : Around} {E : Value → Shared → Prop} {s : Shared} {m : Str → Option Value} {x : Str} {v : Value} {Q : Unit → Shared → Prop} (hn : s.heap.Ns L m) (hB : B.get? L = none)
    (h : ∀ s', Go B [L] s s' → s'.heap.Ns L (fun y => if y = x then some v else m y) → Q () s') (hl : (lawEnv L f cd).kindOf x = some .local) : wpAny (model prog w) A (storeName (lawEnv L f cd) x v) Q E s :=
  stE (env := lawEnv L f cd) hn hB h wk hl
theorem ldW {A : Around} {E : Value → Shared → Prop} {s : Shared} {m : Str → Option Value} {x : Str} {pos : Pos} {v : Value} {Q : Value → Shared → Prop} (hn : s.heap.Ns L m) (hv : m x = some v) (h : Q v s) (hl : (lawEnv L f cd).kindOf x = some .local)
    (hd : (x == ("__debug__" : Str)) = false := by decide) : wpAny (model prog w) A (eval (.Name x pos) (lawEnv L f cd)) Q E s := ldE (env := lawEnv L f cd) hn hv h wk hl hd

/-- a call of one of the program's functions -/
theorem cw_fn {q : Addr} {qual : Str} {S : Stmt} {cdq : Value} {pos : Pos} {first : List Value} {e : PySem.Expr} {rest : List PySem.Expr} {env : Env} {Q : Value → Shared → Prop} (X : FnAt B q qual S cdq)
    (h : wpAny (model prog w) A (spliced (backTo pos (starEach (e :: rest) env))) (fun vs s₁ => B.StaysIn s₁.heap ∧ wpAny (model prog w) A (call (.ref q) (first ++ vs)) Q E s₁) E s)
    (he : starEach (e :: rest) env = (false, eval e env) :: starEach rest env) :
    wpAny (model prog w) A (callWith pos (.ref q) first (backTo pos (starEach (e :: rest) env)) []) Q E s := by
  obtain ⟨⟨o, name, doc, pm, an, ct, ho, hd⟩, hcd⟩ := X
  exact callWith_meth hd ho h he

/-- (host, stem + c) -/
theorem ev_hs {e1 e2 : PySem.Expr} {c k : Nat} {p1 p2 p3 : Pos} {z : Str} {env : Env} {Q : Value → Shared → Prop} {h st : Str}
    (h1 : wpAny (model prog w) A (eval e1 env) (fun v1 s1 => ∃ t, v1 = .str h t ∧ wpAny (model prog w) A (eval e2 env) (fun v2 s2 => ∃ u, v2 = .str st u ∧ st.length ≤ 1000 ∧ z.length ≤ 1000 ∧ ∀ s3 v, Go B [] s2 s3 → TupAt s3.heap v (h, st ++ z) → Q v s3) E s1) E s)
    (hs1 : starEach [e1, .BinOp e2 .Add (.Constant (.str z) k p1) p2] env = (false, eval e1 env) :: starEach [.BinOp e2 .Add (.Constant (.str z) k p1) p2] env)
    (hs2 : starEach [.BinOp e2 .Add (.Constant (.str z) k p1) p2] env = (false, eval (.BinOp e2 .Add (.Constant (.str z) k p1) p2) env) :: starEach [] env) :
    wpAny (model prog w) A (eval (.Tuple [e1, .BinOp e2 .Add (.Constant (.str z) k p1) p2] c p3) env) Q E s := by
  refine ev_pair (B := B) (wpAny_mono h1 (fun v1 s1 h1' => ?_) fun _ _ x => x) hs1 hs2
  obtain ⟨t, rfl, h2⟩ := h1'
  refine wpAny_BinOp (wpAny_mono h2 (fun v2 s2 h2' => wpAny_Constant_str ?_) fun _ _ x => x)
  obtain ⟨u, rfl, l1, l2, hq⟩ := h2'
  refine add_str (fun t9 tk9 => ⟨h, t, st ++ z, t9, rfl, rfl, fun s8 v k8 hv => hq s8 v (Go.toks.trans k8) hv⟩) (by rw [sizeLine_eq]; omega)

/-- three_way_cmp(x, y) -/
theorem ev_cmp {e1 e2 : PySem.Expr} {p1 p2 : Pos} {Q : Value → Shared → Prop} (F : Fns Fg B mg mb C fI fS fR fC fD cdI cdS cdR cdC cdD) (R : Rm A) (hS : B.StaysIn s.heap)
    (h : wpAny (model prog w) A (eval e1 (lawEnv L f cd)) (fun v1 s1 => wpAny (model prog w) A (eval e2 (lawEnv L f cd)) (fun v2 s2 => ∃ p q, B.StaysIn s2.heap ∧ TupAt s2.heap v1 p ∧ TupAt s2.heap v2 q ∧ ∀ s3 t, Go B [] s2 s3 → Q (.int (cmpI p q) t) s3) E s1) E s)
    (hs1 : starEach [e1, e2] (lawEnv L f cd) = (false, eval e1 (lawEnv L f cd)) :: starEach [e2] (lawEnv L f cd)) (hs2 : starEach [e2] (lawEnv L f cd) = (false, eval e2 (lawEnv L f cd)) :: starEach [] (lawEnv L f cd)) :
    wpAny (model prog w) A (eval (.Call (.Name (Str.ofString "three_way_cmp") p1) [e1, e2] [] p2) (lawEnv L f cd)) Q E s := by
  refine wpAny_Call_ofName (ldGl F.gl hS F.gCmp ?_ wk wk_cmp rfl)
  refine cw_fn F.cmp (spliced_more (wpAny_mono h (fun v1 s1 h1 => spliced_more (wpAny_mono h1 (fun v2 s2 h2 => spliced_none ?_) fun _ _ x => x) hs2) fun _ _ x => x) hs1) hs1
  obtain ⟨p, q, hS2, hp, hq, hQ⟩ := h2
  have := R.room
  have := R.units
  exact ⟨hS2, three_way F.cmp hS2 F.lim (by omega) (by omega) hp hq hQ⟩
end

/-! the inner loop: due -/
def innerBody : List Stmt := forBody ((forBody ((bodyOf lawS).getD 3 (.Pass ⟨0, 0, 0, 0⟩))).getD 2 (.Pass ⟨0, 0, 0, 0⟩))

def assignVal : Stmt → PySem.Expr
  | .Assign _ v _ => v
  | _ => .Constant .none 0 ⟨0, 0, 0, 0⟩

def ifBody : Stmt → List Stmt
  | .If _ b _ _ => b
  | _ => []

def IK (L lr ld : Addr) (p : Pr) (ps : List Pr) (i : Nat) (s : Shared) : Prop :=
  ∃ (m : Str → Option Value) (dvs : List Value) (ts : Tok), s.heap.Ns L m ∧ m (Str.ofString "row") = some (.ref lr) ∧ m (Str.ofString "stem") = some (.str (stemS p.2) ts) ∧ m (Str.ofString "due") = some (.ref ld) ∧
    s.heap.PlainList ld dvs.toArray ∧ TupsAt s.heap dvs ((ps.take i).filter (dueB p))

theorem IK.keep {B : Heap} {L lr ld : Addr} {p : Pr} {ps : List Pr} {i : Nat} {s1 s2 : Shared} {a : Addr} (x : IK L lr ld p ps i s1) (g : Go B [a] s1 s2) (hf : Fld s1.heap a) : IK L lr ld p ps i s2 := by
  obtain ⟨m, dvs, ts, hns, e1, e2, e3, hpl, hT⟩ := x
  have hX : FldX {} {} s1.heap [a] := .one (by simp [Heap.get?]) (by simp [Heap.get?]) hf
  exact ⟨m, dvs, ts, g.ns (hX.ns hns) hns, e1, e2, e3, g.plain (hX.list hpl.isList) hpl, hT.go g hX.noSeq.tup⟩

section
variable {prog : Program} {w : World} {A : Around} {E : Value → Shared → Prop} {s : Shared} {B : Heap} {Fg : Frag} {mg mb : Str → Option Value} {C fI fS fR fC fD L f lr ld : Addr} {cdI cdS cdR cdC cdD cd v : Value} {p q : Pr} {ps : List Pr} {i : Nat} {th tp : Tok}

set_option maxHeartbeats 2000000 in
theorem inner_turn {pos : Pos} (F : Fns Fg B mg mb C fI fS fR fC fD cdI cdS cdR cdC cdD) (R : Rm A) (hS : B.StaysIn s.heap) (hBL : B.get? L = none) (hBd : B.get? ld = none)
    (hh : s.heap.IsCell (L + 3) (some (.str p.1 th))) (hp : s.heap.IsCell (L + 4) (some (.str p.2 tp))) (okp : Okp p) (okq : Okp q) (hl : (stemS p.2).length ≤ 100) (hv : TupAt s.heap v q) (hi : ps[i]? = some q) (hlen : ps.length ≤ 9) (hk : IK L lr ld p ps i s) :
    wpAny (model prog w) A (assign (.Name (Str.ofString "one") pos) (lawEnv L f cd) v) (fun _ s2 => wpAny (model prog w) A (execs innerBody (lawEnv L f cd)) (fun fl s3 => match fl with
      | .next | .cont => Go B [L, ld] s s3 ∧ IK L lr ld p ps (i + 1) s3
      | .brk => False
      | .ret _ => False) (fun _ _ => False) s2) (fun _ _ => False) s := by
  obtain ⟨m, dvs, ts, hns, e1, e2, e3, hpl, hT⟩ := hk
  refine wpAny_assign_Name (stW (B := B) hns hBL (fun s2 k2 n2 => ?_) wk_one)
  have ntL := NoSeq.ns hns
  have cL : ∀ {c : Addr} {v : Option Value}, s.heap.IsCell c v → c ∉ [L] := fun {c v} hc q => by
    obtain ⟨o, eo, hd⟩ := hc
    obtain ⟨o', es, ep, eo', hd', _⟩ := hns
    rw [List.mem_singleton.mp q, eo'] at eo; cases eo
    rw [hd] at hd'; cases hd'
  have h3 := k2.isCell (cL hh) hh
  have h4 := k2.isCell (cL hp) hp
  have hpl2 := k2.plain (by simpa using ne_ns_plain hns hpl) hpl
  have hT2 := hT.go k2 ntL.tup
  have hv2 := hv.go k2 ntL.tup
  have S2 := k2.base hS
  -- the two halves
  have ldH : ∀ {Q : Value → Shared → Prop} {E : Value → Shared → Prop} {s' : Shared} {pos : Pos}, Go B [] s2 s' → Q (.str p.1 th) s' → wpAny (model prog w) A (eval (.Name (Str.ofString "host") pos) (lawEnv L f cd)) Q E s' :=
    fun g h => ldC (env := lawEnv L f cd) (g.isCell (by simp) h3) h wk wk_host wc_host
  have ldP : ∀ {Q : Value → Shared → Prop} {E : Value → Shared → Prop} {s' : Shared} {pos : Pos}, Go B [] s2 s' → Q (.str p.2 tp) s' → wpAny (model prog w) A (eval (.Name (Str.ofString "path") pos) (lawEnv L f cd)) Q E s' :=
    fun g h => ldC (env := lawEnv L f cd) (g.isCell (by simp) h4) h wk wk_path wc_path
  have ldS : ∀ {Q : Value → Shared → Prop} {E : Value → Shared → Prop} {s' : Shared} {pos : Pos}, Go B [] s2 s' → Q (.str (stemS p.2) ts) s' → wpAny (model prog w) A (eval (.Name (Str.ofString "stem") pos) (lawEnv L f cd)) Q E s' :=
    fun g h => ldW (g.ns (by simp) n2) ((upd_ne (by decide)).trans e2) h wk_stem
  have ldO : ∀ {Q : Value → Shared → Prop} {E : Value → Shared → Prop} {s' : Shared} {pos : Pos}, Go B [] s2 s' → Q v s' → wpAny (model prog w) A (eval (.Name (Str.ofString "one") pos) (lawEnv L f cd)) Q E s' :=
    fun g h => ldW (g.ns (by simp) n2) upd_eq h wk_one
  have U := R.units
  have key : ∀ {Q : Value → Shared → Prop}, (∀ s', Go B [] s2 s' → Q (.bool (inB p q)) s') → wpAny (model prog w) A (eval (assignVal (innerBody.getD 0 (.Pass ⟨0, 0, 0, 0⟩))) (lawEnv L f cd)) Q (fun _ _ => False) s2 := by
    intro Q hQ
    refine wpAny_And2 (wpAny_Compare1 (ev_cmp F R S2 (ev_hs (B := B) (h := p.1) (st := stemS p.2) (ldH (.refl ..) ⟨th, rfl, ldS (.refl ..) ⟨ts, rfl, by omega, by decide, fun s3 v3 k3 hv3 => ?_⟩⟩) (by with_unfolding_all rfl) (by with_unfolding_all rfl)) (by with_unfolding_all rfl) (by with_unfolding_all rfl)))
    refine ldO k3 ⟨_, q, k3.base S2, hv3, hv2.go k3 .nil, fun s4 t4 k4 => wpAny_Constant_int (PyProof.Rows.ne_int (wpAny_truthy_bool ?_))⟩
    have g4 : Go B [] s2 s4 := k3.trans k4
    by_cases hc : cmpI (p.1, stemS p.2 ++ Str.ofString "/") q = 1
    · rw [if_neg (by simpa using hc)]
      have e : inB p q = (cmpI (p.1, stemS p.2 ++ Str.ofString "/") q != 1) := by simp [inB, hc]
      rw [e] at hQ
      exact hQ _ (g4.trans Go.toks)
    · rw [if_pos (by simpa using hc)]
      refine wpAny_Compare1 (ev_cmp F R ((g4.trans Go.toks).base S2) (ldO (g4.trans Go.toks) (ev_hs (B := B) (h := p.1) (st := stemS p.2) (ldH (g4.trans Go.toks) ⟨th, rfl, ldS (g4.trans Go.toks) ⟨ts, rfl, by omega, by decide, fun s5 v5 k5 hv5 => ?_⟩⟩) (by with_unfolding_all rfl) (by with_unfolding_all rfl))) (by with_unfolding_all rfl) (by with_unfolding_all rfl))
      have g5 := (g4.trans Go.toks).trans k5
      refine ⟨q, _, g5.base S2, hv2.go g5 .nil, hv5, fun s6 t6 k6 => wpAny_UnaryOp (wpAny_Constant_int (neg_int (PyProof.Rows.eq_int ?_)))⟩
      have e : inB p q = (cmpI q (p.1, stemS p.2 ++ Str.ofString "0") == -1) := by
        simp only [inB, hc, decide_false, Bool.not_false, Bool.true_and]
        by_cases hz : cmpI q (p.1, stemS p.2 ++ Str.ofString "0") = -1
        · rw [decide_eq_true hz, beq_iff_eq.mpr hz]
        · rw [decide_eq_false hz, beq_eq_false_iff_ne.mpr hz]
      rw [e] at hQ
      exact hQ _ ((g5.trans k6).trans Go.toks)
  -- inside = ..
  refine wpAny_execs_cons (wpAny_Assign_Name (key fun s3 k3 => ?_) (by with_unfolding_all rfl))
  refine stW (B := B) (k3.ns (by simp) n2) hBL (fun s4 k4 n4 => ?_) wk_inside
  have g4 : Go B [L] s2 s4 := k3.nil.trans k4
  have nt2 := NoSeq.ns n2
  have cL2 : ∀ {c : Addr} {v : Option Value}, s2.heap.IsCell c v → c ∉ [L] := fun {c v} hc q => by
    obtain ⟨o, eo, hd⟩ := hc
    obtain ⟨o', es, ep, eo', hd', _⟩ := n2
    rw [List.mem_singleton.mp q, eo'] at eo; cases eo
    rw [hd] at hd'; cases hd'
  have h34 := g4.isCell (cL2 h3) h3
  have h44 := g4.isCell (cL2 h4) h4
  have hpl4 := g4.plain (by simpa using ne_ns_plain n2 hpl2) hpl2
  have hT4 := hT2.go g4 nt2.tup
  have hv4 := hv2.go g4 nt2.tup
  have S4 := g4.base S2
  have one4 : (fun y => if y = Str.ofString "inside" then some (Value.bool (inB p q)) else if y = Str.ofString "one" then some v else m y) (Str.ofString "one") = some v := (upd_ne (by decide)).trans upd_eq
  have ftake : (ps.take (i + 1)).filter (dueB p) = (ps.take i).filter (dueB p) ++ (if dueB p q then [q] else []) := take_succ_filter (dueB p) ps i q hi
  have dl : dvs.length ≤ 1000 := by
    have a1 := hT.length
    have a2 : ((ps.take i).filter (dueB p)).length ≤ (ps.take i).length := List.length_filter_le _ _
    have a3 : (ps.take i).length ≤ ps.length := by simp; omega
    omega
  have names : ∀ {x : Str} {u : Value}, x ≠ Str.ofString "inside" → x ≠ Str.ofString "one" → m x = some u → (fun y => if y = Str.ofString "inside" then some (Value.bool (inB p q)) else if y = Str.ofString "one" then some v else m y) x = some u :=
    fun {x u} a b c => (upd_ne a).trans ((upd_ne b).trans c)
  -- if one == (host, path) or inside
  refine wpAny_execs_cons (wpAny_If (wpAny_isTrue_BoolOp (wpAny_allTrue_Or_cons (wpAny_isTrue_Compare1 (ldW n4 one4 (ev_pair (B := B) (ldC (env := lawEnv L f cd) h34 (ldC (env := lawEnv L f cd) h44 ⟨_, _, _, _, rfl, rfl, fun s5 v5 k5 hv5 => ?_⟩ wk wk_path wc_path) wk wk_host wc_host) (by with_unfolding_all rfl) (by with_unfolding_all rfl)) wk_one)))))
  refine eq_pair (hv4.go k5 .nil) hv5 okq okp (by omega) (wpAny_truthy_bool ?_)
  have n5 := k5.ns (by simp) n4
  have skip : dueB p q = false → Go B [L, ld] s s5 ∧ IK L lr ld p ps (i + 1) s5 := fun hd => by
    refine ⟨((k2.trans g4).trans k5.nil).mono (fun b hb => by rw [List.mem_singleton.mp hb]; exact .head _), _, dvs, ts, n5, names (by decide) (by decide) e1, names (by decide) (by decide) e2, names (by decide) (by decide) e3, k5.plain (by simp) hpl4, ?_⟩
    rw [ftake, hd]
    simpa using hT4.go k5 .nil
  have add : dueB p q = true → wpAny (model prog w) A (execs (ifBody (innerBody.getD 1 (.Pass ⟨0, 0, 0, 0⟩))) (lawEnv L f cd)) (fun fl s3 => Flow.next = fl ∧ Go B [L, ld] s s3 ∧ IK L lr ld p ps (i + 1) s3) (fun _ _ => False) s5 := fun hd => by
    refine wpAny_execs_cons (app_stmt (pl := _) (B := B) (l := ld) (vs := dvs) (ldW n5 (names (by decide) (by decide) e3) ⟨rfl, k5.plain (by simp) hpl4, ldW n5 one4 ⟨k5.plain (by simp) hpl4, dl, hBd, fun s6 k6 hp6 => wpAny_execs_nil ⟨rfl, ?_, ?_⟩⟩ wk_one⟩ wk_due) (by with_unfolding_all rfl) (by with_unfolding_all rfl) (by with_unfolding_all rfl) (by with_unfolding_all rfl))
    · exact (((k2.trans g4).trans k5.nil).mono (fun b hb => by rw [List.mem_singleton.mp hb]; exact .head _)).trans (k6.mono fun b hb => by rw [List.mem_singleton.mp hb]; exact .tail _ (.head _))
    · have nt := NoTup.list (k5.plain (by simp) hpl4).isList
      refine ⟨_, dvs ++ [v], ts, k6.ns (by simpa using Ne.symm (ne_ns_plain n5 (k5.plain (by simp) hpl4))) n5, names (by decide) (by decide) e1, names (by decide) (by decide) e2, names (by decide) (by decide) e3, hp6, ?_⟩
      rw [ftake, hd]
      exact ((hT4.go k5 .nil).go k6 nt).append (.one ((hv4.go k5 .nil).go k6 nt))
  by_cases hqp : q = p
  · rw [if_pos (by simpa using hqp), if_pos rfl]
    refine wpAny_mono (add (by simp [dueB, hqp])) (fun fl s6 h6 => ?_) fun _ _ x => x
    obtain ⟨rfl, h6⟩ := h6
    exact wpAny_execs_nil h6
  · rw [if_neg (by simpa using hqp)]
    have ed : dueB p q = inB p q := by simp [dueB, hqp]
    refine wpAny_allTrue_Or_cons (wpAny_isTrue_value (ldW n5 upd_eq (wpAny_truthy_bool ?_) wk_inside))
    cases hin : inB p q with
    | true =>
      rw [if_pos rfl, if_pos rfl]
      refine wpAny_mono (add (by rw [ed, hin])) (fun fl s6 h6 => ?_) fun _ _ x => x
      obtain ⟨rfl, h6⟩ := h6
      exact wpAny_execs_nil h6
    | false =>
      rw [if_neg (by decide)]
      refine wpAny_allTrue_Or_nil ?_
      rw [if_neg (by decide)]
      exact wpAny_execs_nil (wpAny_execs_nil (skip (by rw [ed, hin])))
end
end Mine

namespace Mine

/-- addresses apart -/
structure Ap (L lr lb x dx : Addr) : Prop where
  flr : ∀ j : Nat, j ≤ 6 → lr ≠ L + j
  flb : ∀ j : Nat, j ≤ 6 → lb ≠ L + j
  fx : ∀ j : Nat, j ≤ 6 → x ≠ L + j
  fdx : ∀ j : Nat, j ≤ 6 → dx ≠ L + j
  lrb : lr ≠ lb
  xb : x ≠ lb
  db : dx ≠ lb

/-- what stands through both loops -/
structure St (B : Heap) (C L lr lb x dx : Addr) (rvs : List Value) (ps : List Pr) (s : Shared) : Prop where
  stays : B.StaysIn s.heap
  row : s.heap.IsList lr rvs.toArray
  tups : TupsAt s.heap rvs ps
  man : s.heap.IsCell (L + 1) (some (.ref x))
  bel : s.heap.IsCell (L + 2) (some (.ref lb))
  mgr : MgrAt s.heap C x dx

section
variable {B : Heap} {C L lr lb x dx : Addr} {rvs : List Value} {ps : List Pr} {s s' : Shared} {X : List Addr}
theorem St.go (S : St B C L lr lb x dx rvs ps s) (g : Go B X s s') (nt : NoTup s.heap X) (h1 : lr ∉ X) (h2 : L + 1 ∉ X) (h3 : L + 2 ∉ X) (h4 : x ∉ X) (h5 : dx ∉ X) : St B C L lr lb x dx rvs ps s' :=
  ⟨g.base S.stays, g.isList h1 S.row, S.tups.go g nt, g.isCell h2 S.man, g.isCell h3 S.bel, S.mgr.go g h4 h5⟩
theorem St.go0 (S : St B C L lr lb x dx rvs ps s) (g : Go B [] s s') : St B C L lr lb x dx rvs ps s' := S.go g .nil (by simp) (by simp) (by simp) (by simp) (by simp)
/-- a change of the frame, of one of the four cells, or of the list `below` -/
def Mv (L lb : Addr) (X : List Addr) : Prop := ∀ a ∈ X, a = L ∨ a = L + 3 ∨ a = L + 4 ∨ a = L + 5 ∨ a = L + 6 ∨ a = lb
theorem ofs {L : Addr} (i j : Nat) (hij : i ≠ j) (q : L + i = L + j) : False := hij (Nat.add_left_cancel q)
theorem Mv.apart (M : Mv L lb X) (P : Ap L lr lb x dx) : lr ∉ X ∧ L + 1 ∉ X ∧ L + 2 ∉ X ∧ x ∉ X ∧ dx ∉ X := by
  have hlb1 : L + 1 ≠ lb := fun q => P.flb 1 (by decide) q.symm
  have hlb2 : L + 2 ≠ lb := fun q => P.flb 2 (by decide) q.symm
  have a1 := P.lrb
  have a2 := P.xb
  have a3 := P.db
  refine ⟨fun q => ?_, fun q => ?_, fun q => ?_, fun q => ?_, fun q => ?_⟩
  · rcases M _ q with h | h | h | h | h | h
    · exact P.flr 0 (by decide) h
    · exact P.flr 3 (by decide) h
    · exact P.flr 4 (by decide) h
    · exact P.flr 5 (by decide) h
    · exact P.flr 6 (by decide) h
    · exact a1 h
  · rcases M _ q with h | h | h | h | h | h
    · exact ofs 1 0 (by decide) h
    · exact ofs 1 3 (by decide) h
    · exact ofs 1 4 (by decide) h
    · exact ofs 1 5 (by decide) h
    · exact ofs 1 6 (by decide) h
    · exact hlb1 h
  · rcases M _ q with h | h | h | h | h | h
    · exact ofs 2 0 (by decide) h
    · exact ofs 2 3 (by decide) h
    · exact ofs 2 4 (by decide) h
    · exact ofs 2 5 (by decide) h
    · exact ofs 2 6 (by decide) h
    · exact hlb2 h
  · rcases M _ q with h | h | h | h | h | h
    · exact P.fx 0 (by decide) h
    · exact P.fx 3 (by decide) h
    · exact P.fx 4 (by decide) h
    · exact P.fx 5 (by decide) h
    · exact P.fx 6 (by decide) h
    · exact a2 h
  · rcases M _ q with h | h | h | h | h | h
    · exact P.fdx 0 (by decide) h
    · exact P.fdx 3 (by decide) h
    · exact P.fdx 4 (by decide) h
    · exact P.fdx 5 (by decide) h
    · exact P.fdx 6 (by decide) h
    · exact a3 h
theorem St.mv (S : St B C L lr lb x dx rvs ps s) (P : Ap L lr lb x dx) (M : Mv L lb X) (g : Go B X s s') (nt : NoTup s.heap X) : St B C L lr lb x dx rvs ps s' :=
  let ⟨a, b, c, d, e⟩ := M.apart P; S.go g nt a b c d e

/-- the lists that `below` holds -/
def Bels (h : Heap) (lb : Addr) (ps : List Pr) (bvs : List Value) : Prop := ∀ (j : Nat) (v : Value), bvs[j]? = some v → ∃ p, ps[j]? = some p ∧ ListAt h v (bel ps p) ∧ v ≠ .ref lb
def Soft (h : Heap) (lb : Addr) (X : List Addr) : Prop := ∀ a ∈ X, (a = lb ∧ ∃ vs, h.IsList lb vs) ∨ NoSeq h [a]
theorem Soft.nil {h : Heap} : Soft h lb [] := fun _ q => (nomatch q)
theorem Soft.tup {h : Heap} (x : Soft h lb X) : NoTup h X := fun a ha o e => by
  rcases x a ha with ⟨rfl, vs, hl⟩ | hs
  · exact NoTup.list hl a (.head _) o e
  · exact .inr (hs a (.head _) o e)
theorem Bels.go {bvs : List Value} (b : Bels s.heap lb ps bvs) (g : Go B X s s') (sf : Soft s.heap lb X) : Bels s'.heap lb ps bvs := fun j v e => by
  obtain ⟨p, hp, hl, hne⟩ := b j v e
  refine ⟨p, hp, hl.go g sf.tup fun l e2 q => ?_, hne⟩
  rcases sf l q with ⟨rfl, _⟩ | hs
  · exact hne e2
  · obtain ⟨l', vs, e3, ⟨o, eo, _, n, hd⟩, _⟩ := hl
    rw [e2] at e3; cases e3
    exact hs l (.head _) o eo _ _ hd
theorem Soft.ns {h : Heap} {m : Str → Option Value} (hn : h.Ns L m) : Soft h lb [L] := fun _ ha => .inr (by rw [List.mem_singleton.mp ha]; exact NoSeq.ns hn)
theorem Soft.cell {h : Heap} {c : Addr} {v : Option Value} (hc : h.IsCell c v) : Soft h lb [c] := fun _ ha => .inr (by rw [List.mem_singleton.mp ha]; exact NoSeq.cell hc)
theorem Soft.list {h : Heap} {vs : Array Value} (hl : h.IsList lb vs) : Soft h lb [lb] := fun _ ha => .inl ⟨List.mem_singleton.mp ha, vs, hl⟩
end

/-! the comprehension of the first loop -/
def cl1 (L : Addr) : List (Str × Addr) := [(Str.ofString "path", L + 4), (Str.ofString "manager", L + 1), (Str.ofString "host", L + 3)]
def compOf : Stmt → PySem.Expr
  | .If (.Compare l _ _ _) _ _ _ => l
  | _ => .Constant .none 0 ⟨0, 0, 0, 0⟩
def compScope : PySem.Expr → Scope
  | .ListComp _ _ sc _ => sc
  | _ => { kind := .function, names := [], isGenerator := false, isCoroutine := false, more := [] }
def outerBody : List Stmt := forBody ((bodyOf lawS).getD 3 (.Pass ⟨0, 0, 0, 0⟩))
def comp1 : PySem.Expr := compOf (outerBody.getD 3 (.Pass ⟨0, 0, 0, 0⟩))
abbrev sc1 : Scope := compScope comp1
section
variable {L f Cm : Addr} {cd : Value}
theorem clos1 : closureFor sc1 (lawEnv L f cd) = pure (cl1 L) := by with_unfolding_all rfl
abbrev env1 (L f Cm : Addr) (cd : Value) : Env := compEnvC sc1 (cl1 L) Cm (lawEnv L f cd)
theorem ek : (env1 L f Cm cd).scope.kind = .function := by with_unfolding_all rfl
theorem ek_one : (env1 L f Cm cd).kindOf (Str.ofString "one") = some .local := by with_unfolding_all rfl
theorem ek_host : (env1 L f Cm cd).kindOf (Str.ofString "host") = some .cell := by with_unfolding_all rfl
theorem ek_path : (env1 L f Cm cd).kindOf (Str.ofString "path") = some .cell := by with_unfolding_all rfl
theorem ek_man : (env1 L f Cm cd).kindOf (Str.ofString "manager") = some .cell := by with_unfolding_all rfl
theorem ec_host : (env1 L f Cm cd).cells.lookup (Str.ofString "host") = some (L + 3) := by with_unfolding_all rfl
theorem ec_path : (env1 L f Cm cd).cells.lookup (Str.ofString "path") = some (L + 4) := by with_unfolding_all rfl
theorem ec_man : (env1 L f Cm cd).cells.lookup (Str.ofString "manager") = some (L + 1) := by with_unfolding_all rfl
end

section
variable {prog : Program} {w : World} {A : Around} {E : Value → Shared → Prop} {s : Shared} {B : Heap} {Fg : Frag} {mg mb : Str → Option Value} {C fI fS fR fC fD L f lr lb x dx : Addr} {cdI cdS cdR cdC cdD cd : Value} {rvs : List Value} {ps : List Pr} {p : Pr} {th tp : Tok} {Q : Value → Shared → Prop}

/-- manager.is_suburi(a, b) in any frame that sees the manager -/
theorem ev_sub {env : Env} {eM e1 e2 : PySem.Expr} {p1 p2 : Pos} {pl : Sem Bool} (F : Fns Fg B mg mb C fI fS fR fC fD cdI cdS cdR cdC cdD) (R : Rm A)
    (h : wpAny (model prog w) A (eval eM env) (fun ov s0 => ov = .ref x ∧ B.StaysIn s0.heap ∧ MgrAt s0.heap C x dx ∧ wpAny (model prog w) A (eval e1 env) (fun v1 s1 => wpAny (model prog w) A (eval e2 env) (fun v2 s2 => ∃ p q, B.StaysIn s2.heap ∧ TupAt s2.heap v1 p ∧ TupAt s2.heap v2 q ∧ Okp p ∧ Okp q ∧ p.2.length ≤ 1000 ∧ ∀ s3, Go B [] s2 s3 → Q (.bool (isSub p q)) s3) E s1) E s0) E s)
    (he : eval (.Call (.Attribute eM (Str.ofString "is_suburi") p1) [e1, e2] [] p2) env = (do
      let ov ← eval eM env
      standAt p1.atName
      let (f, first) ← holding [ov] (getMethod ov (Str.ofString "is_suburi") pl)
      callWith p2 f first (backTo p2 (starEach [e1, e2] env)) []))
    (hs1 : starEach [e1, e2] env = (false, eval e1 env) :: starEach [e2] env) (hs2 : starEach [e2] env = (false, eval e2 env) :: starEach [] env) :
    wpAny (model prog w) A (eval (.Call (.Attribute eM (Str.ofString "is_suburi") p1) [e1, e2] [] p2) env) Q E s := by
  refine MethodCall_ (pl := pl) (wpAny_mono h (fun ov s0 h0 => ?_) fun _ _ x => x) he
  obtain ⟨rfl, hS0, hm, h1⟩ := h0
  refine mgr_method F.mgr hS0 hm ?_
  refine cw_fn F.sub (spliced_more (wpAny_mono h1 (fun v1 s1 h1 => spliced_more (wpAny_mono h1 (fun v2 s2 h2 => spliced_none ?_) fun _ _ x => x) hs2) fun _ _ x => x) hs1) hs1
  obtain ⟨p, q, hS2, hp, hq, op, oq, hz, hQ⟩ := h2
  have := R.room
  have := R.units
  exact ⟨hS2, suburi F.sub hS2 F.lim (by omega) (by omega) hp hq op oq hz hQ⟩

theorem comp1_ev (F : Fns Fg B mg mb C fI fS fR fC fD cdI cdS cdR cdC cdD) (R : Rm A) (S : St B C L lr lb x dx rvs ps s) {m : Str → Option Value} (hn : s.heap.Ns L m) (hr : m (Str.ofString "row") = some (.ref lr))
    (hh : s.heap.IsCell (L + 3) (some (.str p.1 th))) (hp : s.heap.IsCell (L + 4) (some (.str p.2 tp))) (gp : ∀ q ∈ ps, Gp 6 q) (okp : Gp 6 p) (hlen : ps.length ≤ 9)
    (h : ∀ s' D out, Go B [] s s' → s'.heap.PlainList D (List.toArray out) → TupsAt s'.heap out (bel ps p) → Q (.ref D) s') :
    wpAny (model prog w) A (eval comp1 (lawEnv L f cd)) Q E s := by
  have lT := S.tups.length
  refine comp_filter (B := B) (env := lawEnv L f cd) (scope := sc1) (x := Str.ofString "one") (isSub p) R.handled clos1 (by decide) (by with_unfolding_all rfl) (by decide) (by with_unfolding_all rfl) (by decide) (by intro _; with_unfolding_all rfl) (ldW hn hr ⟨lr, rvs, ps, rfl, S.stays, S.row, S.tups, by omega, fun Cm m2 s2 v q E' k2 n2 hv tv hq => ?_, fun s3 D out k3 _ hD hT => h s3 D out k3 hD hT⟩ wk_row)
  have okq := gp q hq
  have l1 := okp.2.2
  refine wpAny_isTrue_value (ev_sub (env := env1 L f Cm cd) (x := x) (dx := dx) (pl := _) F R (ldC (env := env1 L f Cm cd) (k2.isCell (by simp) S.man) ⟨rfl, k2.base S.stays, S.mgr.go k2 (by simp) (by simp), ev_pair (B := B) (ldC (env := env1 L f Cm cd) (k2.isCell (by simp) hh) (ldC (env := env1 L f Cm cd) (k2.isCell (by simp) hp) ⟨_, _, _, _, rfl, rfl, fun s3 v3 k3 hv3 => ?_⟩ ek ek_path ec_path) ek ek_host ec_host) (by with_unfolding_all rfl) (by with_unfolding_all rfl)⟩ ek ek_man ec_man) (by with_unfolding_all rfl) (by with_unfolding_all rfl) (by with_unfolding_all rfl)) (by with_unfolding_all rfl)
  refine ldE (env := env1 L f Cm cd) (k3.ns (by simp) n2) hv ⟨p, q, k3.base (k2.base S.stays), hv3, tv.go k3 .nil, okp.1, okq.1, by omega, fun s4 k4 => wpAny_truthy_bool ⟨rfl, k3.trans k4⟩⟩ ek ek_one
end
end Mine

namespace Mine

/-- the state of the first loop -/
def OK (L lr lb : Addr) (ps : List Pr) (i : Nat) (s : Shared) : Prop :=
  ∃ (m : Str → Option Value) (bvs : List Value) (vh vp : Option Value), s.heap.Ns L m ∧ m (Str.ofString "row") = some (.ref lr) ∧ s.heap.IsCell (L + 3) vh ∧ s.heap.IsCell (L + 4) vp ∧ s.heap.PlainList lb bvs.toArray ∧ bvs.length = i ∧ Bels s.heap lb ps bvs

section
variable {B : Heap} {L lr lb : Addr} {ps : List Pr} {i : Nat} {s1 s2 : Shared} {a : Addr}
theorem fld_cell {c : Addr} {v : Option Value} (hf : Fld s1.heap a) (hc : s1.heap.IsCell c v) : c ∉ [a] := fun q => by
  obtain ⟨o, e, hd⟩ := hc
  rw [List.mem_singleton.mp q] at e
  obtain ⟨vs, hd'⟩ := hf o e
  rw [hd] at hd'; cases hd'
theorem OK.keep (x : OK L lr lb ps i s1) (g : Go B [a] s1 s2) (hf : Fld s1.heap a) : OK L lr lb ps i s2 := by
  obtain ⟨m, bvs, vh, vp, hns, e1, h3, h4, hpl, hlen, hb⟩ := x
  have hX : FldX {} {} s1.heap [a] := .one (by simp [Heap.get?]) (by simp [Heap.get?]) hf
  exact ⟨m, bvs, vh, vp, g.ns (hX.ns hns) hns, e1, g.isCell (fld_cell hf h3) h3, g.isCell (fld_cell hf h4) h4, g.plain (hX.list hpl.isList) hpl, hlen, hb.go g fun b hb => .inr (by rw [List.mem_singleton.mp hb]; exact hX.noSeq)⟩
end

theorem ns_cell {h : Heap} {L c : Addr} {m : Str → Option Value} {v : Option Value} (hn : h.Ns L m) (hc : h.IsCell c v) : c ≠ L := fun q => by
  obtain ⟨o, eo, hd⟩ := hc
  obtain ⟨o', es, ep, eo', hd', _⟩ := hn
  rw [q, eo'] at eo; cases eo
  rw [hd] at hd'; cases hd'
theorem list_cell {h : Heap} {l c : Addr} {vs : Array Value} {v : Option Value} (hl : h.IsList l vs) (hc : h.IsCell c v) : c ≠ l := fun q => by
  obtain ⟨o, eo, hd⟩ := hc
  obtain ⟨o', eo', _, n, hd'⟩ := hl
  rw [q, eo'] at eo; cases eo
  rw [hd] at hd'; cases hd'
theorem stem_len (x : Str) : (stemS x).length ≤ x.length := by
  unfold stemS
  split
  · exact Txt.slice_le _ _ _
  · exact Nat.le_refl _

section
variable {prog : Program} {w : World} {A : Around} {E : Value → Shared → Prop} {s : Shared} {B : Heap} {Fg : Frag} {mg mb : Str → Option Value} {C fI fS fR fC fD L f lr lb x dx : Addr} {cdI cdS cdR cdC cdD cd v : Value} {rvs : List Value} {ps : List Pr} {p : Pr} {i : Nat}

set_option maxHeartbeats 4000000 in
theorem outer_turn {c : Nat} {p1 p2 p3 : Pos} (F : Fns Fg B mg mb C fI fS fR fC fD cdI cdS cdR cdC cdD) (R : Rm A) (P : Ap L lr lb x dx) (S : St B C L lr lb x dx rvs ps s) (hBL : B.get? L = none) (hB3 : B.get? (L + 3) = none) (hB4 : B.get? (L + 4) = none) (hBb : B.get? lb = none)
    (gp : ∀ q ∈ ps, Gp 6 q) (hlen : ps.length ≤ 9) (hv : TupAt s.heap v p) (hi : ps[i]? = some p) (hk : OK L lr lb ps i s) :
    wpAny (model prog w) A (assign (.Tuple [.Name (Str.ofString "host") p1, .Name (Str.ofString "path") p2] c p3) (lawEnv L f cd) v) (fun _ s2 => wpAny (model prog w) A (execs outerBody (lawEnv L f cd)) (fun fl s3 => match fl with
      | .next | .cont => Go B [L, L + 3, L + 4, lb] s s3 ∧ OK L lr lb ps (i + 1) s3
      | .brk => False
      | .ret _ => False) (fun _ _ => False) s2) (fun _ _ => False) s := by
  obtain ⟨m, bvs, vh, vp, hns, e1, h3, h4, hpl, hbl, hb⟩ := hk
  have okp := gp p (List.mem_of_getElem? hi)
  have hsl : sizeLine = 16777216 := sizeLine_eq
  have lp := okp.2.2
  have ls := stem_len p.2
  have U := R.units
  have lT := S.tups.length
  have c34 : L + 3 ≠ L + 4 := fun q => ofs 3 4 (by decide) q
  -- host, path
  refine as_pair (B := B) R.handled S.stays hv (fun s1 th tp k1 => ?_) (by with_unfolding_all rfl)
  refine wpAny_assign_Name (stC (B := B) (env := lawEnv L f cd) (k1.isCell (by simp) h3) hB3 (fun s2 k2 h32 => wpAny_assign_Name (stC (B := B) (env := lawEnv L f cd) (k2.isCell (by simpa using Ne.symm c34) (k1.isCell (by simp) h4)) hB4 (fun s3 k3 h43 => ?_) wk wk_path wc_path)) wk wk_host wc_host)
  have sf1 : Soft s1.heap lb [L + 3] := .cell (k1.isCell (by simp) h3)
  have sf2 : Soft s2.heap lb [L + 4] := .cell (k2.isCell (by simpa using Ne.symm c34) (k1.isCell (by simp) h4))
  have n1 := k1.ns (by simp) hns
  have n2 := k2.ns (by simpa using Ne.symm (ns_cell n1 (k1.isCell (by simp) h3))) n1
  have n3 := k3.ns (by simpa using Ne.symm (ns_cell n2 (k2.isCell (by simpa using Ne.symm c34) (k1.isCell (by simp) h4)))) n2
  have h33 := k3.isCell (by simpa using c34) h32
  have S1 := S.go0 k1
  have S2 := S1.mv P (fun a ha => by rw [List.mem_singleton.mp ha]; exact .inr (.inl rfl)) k2 sf1.tup
  have S3 := S2.mv P (fun a ha => by rw [List.mem_singleton.mp ha]; exact .inr (.inr (.inl rfl))) k3 sf2.tup
  have b3 := ((hb.go k1 .nil).go k2 sf1).go k3 sf2
  have lb3 : lb ≠ L + 3 := P.flb 3 (by decide)
  have lb4 : lb ≠ L + 4 := P.flb 4 (by decide)
  have pl3 := k3.plain (by simpa using lb4) (k2.plain (by simpa using lb3) (k1.plain (by simp) hpl))
  have g3 : Go B [L, L + 3, L + 4, lb] s s3 := (k1.nil.trans (k2.mono fun b hb => by rw [List.mem_singleton.mp hb]; exact .tail _ (.head _))).trans (k3.mono fun b hb => by rw [List.mem_singleton.mp hb]; exact .tail _ (.tail _ (.head _)))
  clear k1 k2 k3 sf1 sf2 S1 S2 n1 n2 h32
  -- stem
  have key : ∀ {Q : Value → Shared → Prop}, (∀ s' t', Go B [] s3 s' → Q (.str (stemS p.2) t') s') → wpAny (model prog w) A (eval (assignVal (outerBody.getD 0 (.Pass ⟨0, 0, 0, 0⟩))) (lawEnv L f cd)) Q (fun _ _ => False) s3 := by
    intro Q hQ
    refine wpAny_IfExp (wpAny_isTrue_Compare1 (ev_last (B := B) (ldC (env := lawEnv L f cd) h43 ⟨p.2, tp, rfl, by omega, fun s4 t4 k4 => wpAny_Constant_str (PyProof.Rows.eq_str (wpAny_truthy_bool ?_))⟩ wk wk_path wc_path)))
    by_cases hc : Txt.slice p.2 (some (-1)) none = slashS
    · rw [if_pos (by simpa [slashS] using hc)]
      refine ev_init (B := B) (ldC (env := lawEnv L f cd) ((k4.trans Go.toks).isCell (by simp) h43) ⟨p.2, tp, rfl, by omega, fun s5 t5 k5 => ?_⟩ wk wk_path wc_path)
      have e : stemS p.2 = Txt.slice p.2 none (some (-1)) := if_pos hc
      rw [← e]
      exact hQ _ _ ((k4.trans Go.toks).trans k5)
    · rw [if_neg (by simpa [slashS] using hc)]
      refine ldC (env := lawEnv L f cd) ((k4.trans Go.toks).isCell (by simp) h43) ?_ wk wk_path wc_path
      have e : stemS p.2 = p.2 := if_neg hc
      rw [e] at hQ
      exact hQ _ _ (k4.trans Go.toks)
  refine wpAny_execs_cons (wpAny_Assign_Name (key fun s4 t4 k4 => stW (B := B) (k4.ns (by simp) n3) hBL (fun s5 k5 n5 => ?_) wk_stem) (by with_unfolding_all rfl))
  have sf4 : Soft s4.heap lb [L] := .ns (k4.ns (by simp) n3)
  have mvL : Mv L lb [L] := fun a ha => .inl (List.mem_singleton.mp ha)
  have S5 := (S3.go0 k4).mv P mvL k5 sf4.tup
  have L3 : L + 3 ∉ [L] := by simpa using ns_cell n3 h33
  have L4 : L + 4 ∉ [L] := by simpa using ns_cell n3 h43
  have h35 := k5.isCell L3 (k4.isCell (by simp) h33)
  have h45 := k5.isCell L4 (k4.isCell (by simp) h43)
  have b5 := (b3.go k4 .nil).go k5 sf4
  have lbL : lb ∉ [L] := by simpa using P.flb 0 (by decide)
  have pl5 := k5.plain lbL (k4.plain (by simp) pl3)
  have g5 : Go B [L, L + 3, L + 4, lb] s s5 := (g3.trans k4.nil).trans (k5.mono fun b hb => by rw [List.mem_singleton.mp hb]; exact .head _)
  have e5 : (fun y => if y = Str.ofString "stem" then some (Value.str (stemS p.2) t4) else m y) (Str.ofString "row") = some (.ref lr) := (upd_ne (by decide)).trans e1
  clear k4 k5 sf4 S3 b3 pl3 key
  -- due = []
  refine wpAny_execs_cons (wpAny_Assign_Name (ev_nil (B := B) fun ld s6 hd6 k6 hp6 => stW (B := B) (k6.ns (by simp) n5) hBL (fun s7 k7 n7 => ?_) wk_due) (by with_unfolding_all rfl))
  have sf6 : Soft s6.heap lb [L] := .ns (k6.ns (by simp) n5)
  have S7 := (S5.go0 k6).mv P mvL k7 sf6.tup
  have h37 := k7.isCell L3 (k6.isCell (by simp) h35)
  have h47 := k7.isCell L4 (k6.isCell (by simp) h45)
  have b7 := (b5.go k6 .nil).go k7 sf6
  have pl7 := k7.plain lbL (k6.plain (by simp) pl5)
  have pd7 := k7.plain (by simpa using ne_ns_plain (k6.ns (by simp) n5) hp6) hp6
  have g7 : Go B [L, L + 3, L + 4, lb] s s7 := (g5.trans k6.nil).trans (k7.mono fun b hb => by rw [List.mem_singleton.mp hb]; exact .head _)
  have e7 : (fun y => if y = Str.ofString "due" then some (Value.ref ld) else if y = Str.ofString "stem" then some (Value.str (stemS p.2) t4) else m y) (Str.ofString "row") = some (.ref lr) := (upd_ne (by decide)).trans e5
  have hBd : B.get? ld = none := none_of_stays S5.stays hd6
  have dL : ld ≠ L := ne_ns_plain n7 pd7
  have dlb : ld ≠ lb := fun q => by
    obtain ⟨n, e⟩ := pl5
    rw [← q, hd6] at e; cases e
  have hds : s.heap.get? ld = none := by
    cases q : s.heap.get? ld with
    | none => rfl
    | some o =>
      have hm : ld ∉ [L, L + 3, L + 4, lb] := fun hm => by
        rcases List.mem_cons.mp hm with h | hm
        · exact dL h
        rcases List.mem_cons.mp hm with h | hm
        · exact list_cell pd7.isList h37 h.symm
        rcases List.mem_cons.mp hm with h | hm
        · exact list_cell pd7.isList h47 h.symm
        · exact dlb (List.mem_singleton.mp hm)
      obtain ⟨o', e, _⟩ := g5.ext ld o hm q
      rw [hd6] at e; cases e
  have nt7 : NoTup s7.heap [L, ld] := fun a ha => by
    rcases List.mem_cons.mp ha with rfl | ha
    · exact (NoSeq.ns n7).tup _ (.head _)
    · rw [List.mem_singleton.mp ha]; exact NoTup.list pd7.isList _ (.head _)
  have L3' : L + 3 ∉ [L, ld] := by simpa using And.intro (ns_cell n7 h37) (list_cell pd7.isList h37)
  have L4' : L + 4 ∉ [L, ld] := by simpa using And.intro (ns_cell n7 h47) (list_cell pd7.isList h47)
  have lrd : lr ≠ ld := fun q => by
    obtain ⟨o, e, _⟩ := S5.row
    rw [q, hd6] at e; cases e
  -- for one in row
  refine wpAny_execs_cons (wpAny_For (ldW n7 e7 ?_ wk_row) (by intro _; with_unfolding_all rfl))
  refine for_list (B := B) [L, ld] (IK L lr ld p ps) R.handled S7.stays S7.row (by simpa using And.intro (P.flr 0 (by decide)) lrd) ?_ (fun i s1 s2 a x y z => x.keep y z) ⟨_, [], t4, n7, e7, (upd_ne (by decide)).trans upd_eq, upd_eq, pd7, by simp [TupsAt]⟩ own_name (fun j u s8 hu k8 hk => ?_) fun s8 k8 hk => ?_
  · intro a ha
    rcases List.mem_cons.mp ha with rfl | ha
    · obtain ⟨o, _, _, e, _⟩ := n7
      rw [e]; simp
    · rw [List.mem_singleton.mp ha]
      obtain ⟨n, e⟩ := pd7
      rw [e]; simp
  · obtain ⟨q, hq, tq⟩ := S7.tups.get hu
    refine wpAny_mono (inner_turn F R (k8.base S7.stays) hBL hBd (k8.isCell L3' h37) (k8.isCell L4' h47) okp.1 (gp q (List.mem_of_getElem? hq)).1 (by omega) (tq.go k8 nt7) hq hlen hk) (fun _ s9 h9 => wpAny_mono h9 (fun fl s10 h10 => ?_) fun _ _ x => x) fun _ _ x => x
    cases fl with
    | next => exact h10
    | cont => exact h10
    | brk => exact h10.elim
    | ret v => exact h10.elim
  obtain ⟨m8, dvs, t8, n8, r1, r2, r3, pd8, td8⟩ := hk
  have edue : (ps.take rvs.length).filter (dueB p) = bel ps p := by
    rw [lT, List.take_length]
    exact List.filter_congr fun q _ => due_isSub p q
  rw [edue] at td8
  have g58 : Go B [L] s5 s8 := ((k6.nil (Y := [L])).trans k7).drop k8 (fun a ha => by
    rcases List.mem_cons.mp ha with rfl | ha
    · exact .inl (.head _)
    · rw [List.mem_singleton.mp ha]; exact .inr hd6)
  have sf5 : Soft s5.heap lb [L] := .ns n5
  have S8 := S5.mv P mvL g58 sf5.tup
  have h38 := g58.isCell L3 h35
  have h48 := g58.isCell L4 h45
  have b8 := b5.go g58 sf5
  have pl8 := g58.plain lbL pl5
  have g8 : Go B [L, L + 3, L + 4, lb] s s8 := g7.drop k8 (fun a ha => by
    rcases List.mem_cons.mp ha with rfl | ha
    · exact .inl (.head _)
    · rw [List.mem_singleton.mp ha]; exact .inr hds)
  have okb : ∀ q ∈ bel ps p, Okp q := fun q hq => (gp q (mem_bel.mp hq).1).1
  -- if [..] != due
  refine wpAny_execs_cons (wpAny_If (wpAny_isTrue_Compare1 (comp1_ev F R S8 n8 r1 h38 h48 gp okp hlen fun s9 D out k9 hD tD => ldW (k9.ns (by simp) n8) r3 (ne_lists ⟨D, out, rfl, hD.isList, tD⟩ ⟨ld, dvs, rfl, (k9.plain (by simp) pd8).isList, td8.go k9 .nil⟩ okb okb (by omega) (wpAny_truthy_bool ?_)) wk_due)))
  rw [if_neg (by simp)]
  refine wpAny_execs_nil ?_
  -- below.append(due)
  have S9 := S8.go0 k9
  have n9 := k9.ns (by simp) n8
  have pl9 := k9.plain (by simp) pl8
  refine wpAny_execs_cons (app_stmt (pl := _) (B := B) (l := lb) (vs := bvs) (ldC (env := lawEnv L f cd) S9.bel ⟨rfl, pl9, ldW n9 r3 ⟨pl9, by have := (List.getElem?_eq_some_iff.mp hi).1; omega, hBb, fun s10 k10 hp10 => wpAny_execs_nil ⟨?_, ?_⟩⟩ wk_due⟩ wk wk_below wc_below) (by with_unfolding_all rfl) (by with_unfolding_all rfl) (by with_unfolding_all rfl) (by with_unfolding_all rfl))
  · exact (g8.trans k9.nil).trans (k10.mono fun b hb => by rw [List.mem_singleton.mp hb]; exact .tail _ (.tail _ (.tail _ (.head _))))
  · have sfb : Soft s9.heap lb [lb] := .list pl9.isList
    have b10 := (b8.go k9 .nil).go k10 sfb
    refine ⟨m8, bvs ++ [.ref ld], _, _, k10.ns (by simpa using (P.flb 0 (by decide)).symm) n9, r1, k10.isCell (by simpa using lb3.symm) (k9.isCell (by simp) h38), k10.isCell (by simpa using lb4.symm) (k9.isCell (by simp) h48), hp10, by simp [hbl], fun j u hj => ?_⟩
    rcases Nat.lt_trichotomy j bvs.length with h | h | h
    · exact b10 j u (by rwa [List.getElem?_append_left h] at hj)
    · subst h
      simp at hj
      subst hj
      refine ⟨p, by rw [hbl]; exact hi, ⟨ld, dvs, rfl, (k10.plain (by simpa using dlb) (k9.plain (by simp) pd8)).isList, (td8.go k9 .nil).go k10 sfb.tup⟩, fun q => dlb ?_⟩
      cases q; rfl
    · rw [List.getElem?_eq_none (by rw [List.length_append, List.length_singleton]; omega)] at hj
      cases hj
end
end Mine

namespace Mine

theorem subscripted_name {x : Str} {pos : Pos} {l : Addr} {j : Int} {t : Tok} : subscripted (.Name x pos) false (.ref l) (.int j t) = operate [.ref l, .int j t] (getItem (.ref l) (.int j t)) := rfl

section
variable {prog : Program} {w : World} {A : Around} {E : Value → Shared → Prop} {s : Shared} {B : Heap} {env : Env} {Q : Value → Shared → Prop}

/-- xs[i], both by any road -/
theorem ev_at {e1 : PySem.Expr} {x : Str} {q2 q3 : Pos} {l : Addr} {vs : List Value} {j : Nat} {t : Tok} {v : Value}
    (h : wpAny (model prog w) A (eval e1 env) (fun o s1 => o = .ref l ∧ wpAny (model prog w) A (eval (.Name x q2) env) (fun k s2 => k = .int (j : Int) t ∧ s2.heap.IsList l vs.toArray ∧ vs[j]? = some v ∧ j < 1000 ∧ Q v s2) E s1) E s) :
    wpAny (model prog w) A (eval (.Subscript e1 (.Name x q2) q3) env) Q E s := by
  refine Subscript_ (wpAny_mono h (fun o s1 h1 => ?_) fun _ _ x => x)
  obtain ⟨rfl, h1⟩ := h1
  refine wpAny_mono h1 (fun k s2 h2 => ?_) fun _ _ x => x
  obtain ⟨rfl, hl, hv, hj, hq⟩ := h2
  exact sub_in hl hv hj hq subscripted_name

/-- a new pair of two lists -/
theorem ev_two {e1 e2 : PySem.Expr} {c : Nat} {pos : Pos} {R : List Pr × List Pr}
    (h : wpAny (model prog w) A (eval e1 env) (fun v1 s1 => wpAny (model prog w) A (eval e2 env) (fun v2 s2 => ListAt s2.heap v1 R.1 ∧ ListAt s2.heap v2 R.2 ∧ ∀ s3 v, Go B [] s2 s3 → PairAt s3.heap v R → Q v s3) E s1) E s)
    (h1 : starEach [e1, e2] env = (false, eval e1 env) :: starEach [e2] env) (h2 : starEach [e2] env = (false, eval e2 env) :: starEach [] env) :
    wpAny (model prog w) A (eval (.Tuple [e1, e2] c pos) env) Q E s := by
  refine wpAny_Tuple_spliced (spliced_more (wpAny_mono h (fun v1 s1 h1' => spliced_more (wpAny_mono h1' (fun v2 s2 h2' => spliced_none ⟨by show 2 ≤ sizeLine; rw [sizeLine_eq]; omega, ?_⟩) fun _ _ x => x) h2) fun _ _ x => x) h1)
  obtain ⟨l1, l2, hq⟩ := h2'
  have g : Go B [] s2 { s2 with heap := s2.heap.push { cls := .type "tuple", data := .seq [v1, v2].toArray } } := Go.push (s := s2) (tk := s2.toks) _
  have l1' := l1.go g .nil (fun _ _ => by simp)
  have l2' := l2.go g .nil (fun _ _ => by simp)
  obtain ⟨a, _, rfl, _⟩ := id l1
  obtain ⟨b, _, rfl, _⟩ := id l2
  exact hq _ _ g ⟨_, _, 0, a, b, rfl, Heap.get?_push_size _ rfl, rfl, rfl, l1', l2'⟩
end

section
variable {prog : Program} {w : World} {A : Around} {E : Value → Shared → Prop} {s : Shared} {B : Heap} {C L f lr lb x dx cI cK : Addr} {cd v1 v2 : Value} {rvs bvs : List Value} {ps qs us : List Pr} {tI tK : Tok} {Q : Value → Shared → Prop} {i k : Nat}

/-- [one for one in below[k] if one not in below[i]] -/
theorem comp_not {sc : Scope} {cl : List (Str × Addr)} {nI nK : Str} {px px' q1 q2 q3 q4 q5 q6 q7 q8 pos : Pos} (R : Rm A) (S : St B C L lr lb x dx rvs ps s) (pl : s.heap.PlainList lb bvs.toArray)
    (hI : s.heap.IsCell cI (some (.int (i : Int) tI))) (hK : s.heap.IsCell cK (some (.int (k : Int) tK))) (b1 : bvs[k]? = some v1) (b2 : bvs[i]? = some v2) (l1 : ListAt s.heap v1 qs) (l2 : ListAt s.heap v2 us) (ok1 : ∀ q ∈ qs, Okp q) (ok2 : ∀ q ∈ us, Okp q)
    (hi : i < 1000) (hk : k < 1000) (hz : qs.length ≤ 1000)
    (hclos : closureFor sc (lawEnv L f cd) = pure cl) (hcell : ∀ y ∈ sc.names, y.2 ≠ .cell) (hkind : sc.kind = .function) (hnames : ∀ y ∈ sc.names, y.2 = .local → sc.names.lookup y.1 = some .local) (hx : sc.names.lookup (Str.ofString "one") = some .local)
    (kk : (lawEnv L f cd).kindOf nK = some .cell) (ck : (lawEnv L f cd).cells.lookup nK = some cK)
    (e1 : ∀ Cm, (compEnvC sc cl Cm (lawEnv L f cd)).scope.kind = .function) (e2 : ∀ Cm, (compEnvC sc cl Cm (lawEnv L f cd)).kindOf (Str.ofString "one") = some .local)
    (e3 : ∀ Cm, (compEnvC sc cl Cm (lawEnv L f cd)).kindOf (Str.ofString "below") = some .cell) (e4 : ∀ Cm, (compEnvC sc cl Cm (lawEnv L f cd)).kindOf nI = some .cell)
    (e5 : cl.lookup (Str.ofString "below") = some (L + 2)) (e6 : cl.lookup nI = some cI) (d1 : (nI == ("__debug__" : Str)) = false) (d2 : (nK == ("__debug__" : Str)) = false)
    (h : ∀ s' v, Go B [] s s' → ListAt s'.heap v (qs.filter fun c => !decide (c ∈ us)) → Q v s') :
    wpAny (model prog w) A (eval (.ListComp (.Name (Str.ofString "one") px) [⟨.Name (Str.ofString "one") px', .Subscript (.Name (Str.ofString "below") q1) (.Name nK q2) q3, [.Compare (.Name (Str.ofString "one") q4) [.NotIn] [.Subscript (.Name (Str.ofString "below") q5) (.Name nI q6) q7] q8], 0⟩] sc pos) (lawEnv L f cd)) Q E s := by
  obtain ⟨l, vs, rfl, hl, hT⟩ := l1
  have U := R.units
  have lT := hT.length
  refine comp_filter (B := B) (env := lawEnv L f cd) (scope := sc) (x := Str.ofString "one") (fun c => !decide (c ∈ us)) R.handled hclos hcell hkind hnames hx (by decide) (by intro _; rfl) (ev_at (ldC (env := lawEnv L f cd) S.bel ⟨rfl, ldC (env := lawEnv L f cd) hK ⟨rfl, pl.isList, b1, hk, l, vs, qs, rfl, S.stays, hl, hT, by omega, fun Cm m2 s2 v q E' k2 n2 hv tv hq => ?_, fun s3 D out k3 _ hD hT => h s3 _ k3 ⟨D, out, rfl, hD.isList, hT⟩⟩ wk kk ck d2⟩ wk wk_below wc_below))
  refine wpAny_isTrue_Compare1 (ldE (env := compEnvC sc cl Cm (lawEnv L f cd)) n2 hv (ev_at (ldC (env := compEnvC sc cl Cm (lawEnv L f cd)) (k2.isCell (by simp) S.bel) ⟨rfl, ldC (env := compEnvC sc cl Cm (lawEnv L f cd)) (k2.isCell (by simp) hI) ⟨rfl, (k2.plain (by simp) pl).isList, b2, hi, ?_⟩ (e1 Cm) (e4 Cm) e6 d1⟩ (e1 Cm) (e3 Cm) e5)) (e1 Cm) (e2 Cm))
  exact notIn_pairs tv (l2.go k2 .nil (fun _ _ => by simp)) (ok1 q hq) ok2 (by omega) (wpAny_truthy_bool ⟨rfl, .refl ..⟩)
end
end Mine

namespace Mine

def kLoop : Stmt := (forBody ((bodyOf lawS).getD 4 (.Pass ⟨0, 0, 0, 0⟩))).getD 0 (.Pass ⟨0, 0, 0, 0⟩)
def kBody : List Stmt := forBody kLoop
def cl2 (L : Addr) : List (Str × Addr) := [(Str.ofString "i", L + 5), (Str.ofString "below", L + 2)]
def cl3 (L : Addr) : List (Str × Addr) := [(Str.ofString "k", L + 6), (Str.ofString "below", L + 2)]

/-- the state of the loop over k -/
def KK (L lr : Addr) (s : Shared) : Prop :=
  ∃ (m : Str → Option Value) (vk : Option Value), s.heap.Ns L m ∧ m (Str.ofString "row") = some (.ref lr) ∧ s.heap.IsCell (L + 6) vk
theorem KK.keep {B : Heap} {L lr a : Addr} {s1 s2 : Shared} (x : KK L lr s1) (g : Go B [a] s1 s2) (hf : Fld s1.heap a) : KK L lr s2 := by
  obtain ⟨m, vk, hns, e1, h6⟩ := x
  have hX : FldX {} {} s1.heap [a] := .one (by simp [Heap.get?]) (by simp [Heap.get?]) hf
  exact ⟨m, vk, g.ns (hX.ns hns) hns, e1, g.isCell (fld_cell hf h6) h6⟩

theorem PairAt.go {B : Heap} {X : List Addr} {s s' : Shared} {v : Value} {R : List Pr × List Pr} (x : PairAt s.heap v R) (g : Go B X s s') (ns : NoSeq s.heap X) : PairAt s'.heap v R := by
  obtain ⟨a, o, n, l1, l2, rfl, e, hc, hd, h1, h2⟩ := x
  have out : ∀ {l : Addr} {ps : List Pr}, ListAt s.heap (.ref l) ps → ∀ l', Value.ref l = .ref l' → l' ∉ X := fun {l ps} hl l' e' q => by
    obtain ⟨l'', vs, e2, ⟨o', eo, _, n', hd'⟩, _⟩ := hl
    cases e'; cases e2
    exact ns l q o' eo _ _ hd'
  exact ⟨a, o, n, l1, l2, rfl, g.exact (fun q => ns a q o e _ _ hd) e (fun es ep q => by rw [hd] at q; cases q), hc, hd, h1.go g ns.tup (out h1), h2.go g ns.tup (out h2)⟩

section
variable {prog : Program} {w : World} {A : Around} {E : Value → Shared → Prop} {s : Shared} {B : Heap} {Fg : Frag} {mg mb : Str → Option Value} {C fI fS fR fC fD L f lr lb x dx : Addr} {cdI cdS cdR cdC cdD cd : Value} {rvs bvs : List Value} {ps : List Pr} {i k : Nat} {ti tk : Tok}

set_option maxHeartbeats 4000000 in
theorem k_turn {pos : Pos} (F : Fns Fg B mg mb C fI fS fR fC fD cdI cdS cdR cdC cdD) (R : Rm A) (hfr : A.frames = some [lawEnv L f cd]) (P : Ap L lr lb x dx) (S : St B C L lr lb x dx rvs ps s) (hBL : B.get? L = none) (hB6 : B.get? (L + 6) = none)
    (pl : s.heap.PlainList lb bvs.toArray) (hb : Bels s.heap lb ps bvs) (hbl : bvs.length = ps.length) (rise : ps.Pairwise fun p q => plt p q = true)
    (gp : ∀ q ∈ ps, Gp 6 q) (hlen : ps.length ≤ 9) (hi : i < ps.length) (hk : k < ps.length) (h5 : s.heap.IsCell (L + 5) (some (.int (i : Int) ti))) (hkk : KK L lr s) :
    wpAny (model prog w) A (assign (.Name (Str.ofString "k") pos) (lawEnv L f cd) (.int (k : Int) tk)) (fun _ s2 => wpAny (model prog w) A (execs kBody (lawEnv L f cd)) (fun fl s3 => match fl with
      | .next | .cont => Go B [L, L + 6] s s3 ∧ KK L lr s3
      | .brk => False
      | .ret _ => False) (fun _ _ => False) s2) (fun _ _ => False) s := by
  obtain ⟨m, vk, hns, e1, h6⟩ := hkk
  have U := R.units
  have D := R.room
  have lT := S.tups.length
  have c56 : L + 5 ∉ [L + 6] := by simpa using fun q => ofs (L := L) 5 6 (by decide) q
  -- k
  refine wpAny_assign_Name (stC (B := B) (env := lawEnv L f cd) h6 hB6 (fun s2 k2 h62 => ?_) wk wk_k wc_k)
  have sf : Soft s.heap lb [L + 6] := .cell h6
  have n2 := k2.ns (by simpa using Ne.symm (ns_cell hns h6)) hns
  have h52 := k2.isCell c56 h5
  have S2 := S.mv P (fun a ha => by rw [List.mem_singleton.mp ha]; exact .inr (.inr (.inr (.inr (.inl rfl))))) k2 sf.tup
  have b2 := hb.go k2 sf
  have pl2 := k2.plain (by simpa using P.flb 6 (by decide)) pl
  have g2 : Go B [L, L + 6] s s2 := k2.mono fun b hb => by rw [List.mem_singleton.mp hb]; exact .tail _ (.head _)
  clear k2 sf
  -- the two lists
  obtain ⟨vi, hvi⟩ : ∃ v, bvs[i]? = some v := ⟨_, List.getElem?_eq_getElem (by omega)⟩
  obtain ⟨vk', hvk⟩ : ∃ v, bvs[k]? = some v := ⟨_, List.getElem?_eq_getElem (by omega)⟩
  obtain ⟨pi, hpi, lI, neI⟩ := b2 i vi hvi
  obtain ⟨pk, hpk, lK, neK⟩ := b2 k vk' hvk
  have okb : ∀ p, ∀ q ∈ bel ps p, Okp q := fun p q hq => (gp q (mem_bel.mp hq).1).1
  have lenb : ∀ p, (bel ps p).length ≤ 9 := fun p => Nat.le_trans (List.length_filter_le _ _) hlen
  have ldBi : ∀ {Q : Value → Shared → Prop} {E : Value → Shared → Prop} {s' : Shared} {a b c : Pos}, s'.heap.IsCell (L + 2) (some (.ref lb)) → s'.heap.IsCell (L + 5) (some (.int (i : Int) ti)) → s'.heap.PlainList lb bvs.toArray → Q vi s' → wpAny (model prog w) A (eval (.Subscript (.Name (Str.ofString "below") a) (.Name (Str.ofString "i") b) c) (lawEnv L f cd)) Q E s' :=
    fun x y z q => ev_at (ldC (env := lawEnv L f cd) x ⟨rfl, ldC (env := lawEnv L f cd) y ⟨rfl, z.isList, hvi, by omega, q⟩ wk wk_i wc_i⟩ wk wk_below wc_below)
  have ldBk : ∀ {Q : Value → Shared → Prop} {E : Value → Shared → Prop} {s' : Shared} {a b c : Pos}, s'.heap.IsCell (L + 2) (some (.ref lb)) → s'.heap.IsCell (L + 6) (some (.int (k : Int) tk)) → s'.heap.PlainList lb bvs.toArray → Q vk' s' → wpAny (model prog w) A (eval (.Subscript (.Name (Str.ofString "below") a) (.Name (Str.ofString "k") b) c) (lawEnv L f cd)) Q E s' :=
    fun x y z q => ev_at (ldC (env := lawEnv L f cd) x ⟨rfl, ldC (env := lawEnv L f cd) y ⟨rfl, z.isList, hvk, by omega, q⟩ wk wk_k wc_k⟩ wk wk_below wc_below)
  -- told = sorted_list_difference(below[i], below[k])
  obtain ⟨li, ivs, rfl, hli, tI⟩ := id lI
  obtain ⟨lk, kvs, rfl, hlk, tK⟩ := id lK
  refine wpAny_execs_cons (wpAny_Assign_Name (wpAny_Call_ofName (ldGl F.gl S2.stays F.gSld (cw_fn F.sld (spliced_more (ldBi S2.bel h52 pl2 (spliced_more (ldBk S2.bel h62 pl2 (spliced_none ⟨S2.stays, ?_⟩)) (by with_unfolding_all rfl))) (by with_unfolding_all rfl)) (by with_unfolding_all rfl)) wk wk_sld rfl)) (by with_unfolding_all rfl))
  have l9i := lenb pi
  have l9k := lenb pk
  refine sld_call F.sld S2.stays F.lim (by omega) (by omega) R.handled hfr (FrOK.cons (by rw [show (lawEnv L f cd).scope.kind = ScopeKind.function from wk]; decide) rfl hBL n2 (fun _ q => (nomatch q))) F.gl F.nIE F.bIE hli hlk tI tK (okb pi) (okb pk) (bel_rise rise) (bel_rise rise) (by omega) (by omega) fun s3 vt k3 hvt => ?_
  refine stW (B := B) (k3.ns (by simp) n2) hBL (fun s4 k4 n4 => ?_) wk_told
  have sf3 : Soft s3.heap lb [L] := .ns (k3.ns (by simp) n2)
  have mvL : Mv L lb [L] := fun a ha => .inl (List.mem_singleton.mp ha)
  have S4 := (S2.go0 k3).mv P mvL k4 sf3.tup
  have h54 := k4.isCell (by simpa using ns_cell n2 h52) (k3.isCell (by simp) h52)
  have h64 := k4.isCell (by simpa using ns_cell n2 h62) (k3.isCell (by simp) h62)
  have lbL : lb ∉ [L] := by simpa using P.flb 0 (by decide)
  have pl4 := k4.plain lbL (k3.plain (by simp) pl2)
  have b4 := (b2.go k3 .nil).go k4 sf3
  have vt4 := hvt.go k4 (NoSeq.ns (k3.ns (by simp) n2))
  have g4 : Go B [L, L + 6] s s4 := (g2.trans k3.nil).trans (k4.mono fun b hb => by rw [List.mem_singleton.mp hb]; exact .head _)
  have r4 : (fun y => if y = Str.ofString "told" then some vt else m y) (Str.ofString "row") = some (.ref lr) := (upd_ne (by decide)).trans e1
  obtain ⟨_, e, lI4, _⟩ := b4 i _ hvi
  rw [hpi] at e; cases e
  obtain ⟨_, e, lK4, _⟩ := b4 k _ hvk
  rw [hpk] at e; cases e
  clear k3 k4 sf3 hvt S2 n2 h52 h62 pl2 b2 g2 lI lK hli hlk tI tK
  have fin : ∀ s5, Go B [] s4 s5 → Go B [L, L + 6] s s5 ∧ KK L lr s5 := fun s5 k5 => ⟨g4.trans k5.nil, _, _, k5.ns (by simp) n4, r4, k5.isCell (by simp) h64⟩
  -- row[k], row[i]
  obtain ⟨ri, hri⟩ : ∃ v, rvs[i]? = some v := ⟨_, List.getElem?_eq_getElem (by omega)⟩
  obtain ⟨rk', hrk⟩ : ∃ v, rvs[k]? = some v := ⟨_, List.getElem?_eq_getElem (by omega)⟩
  obtain ⟨_, e, tri⟩ := S4.tups.get hri
  rw [hpi] at e; cases e
  obtain ⟨_, e, trk⟩ := S4.tups.get hrk
  rw [hpk] at e; cases e
  have oki := gp pi (List.mem_of_getElem? hpi)
  have okk := gp pk (List.mem_of_getElem? hpk)
  have li2 := oki.2.2
  have lk2 := okk.2.2
  have ldRi : ∀ {Q : Value → Shared → Prop} {E : Value → Shared → Prop} {s' : Shared} {a b c : Pos}, Go B [] s4 s' → Q ri s' → wpAny (model prog w) A (eval (.Subscript (.Name (Str.ofString "row") a) (.Name (Str.ofString "i") b) c) (lawEnv L f cd)) Q E s' :=
    fun g q => ev_at (ldW (g.ns (by simp) n4) r4 ⟨rfl, ldC (env := lawEnv L f cd) (g.isCell (by simp) h54) ⟨rfl, g.isList (by simp) S4.row, hri, by omega, q⟩ wk wk_i wc_i⟩ wk_row)
  have ldRk : ∀ {Q : Value → Shared → Prop} {E : Value → Shared → Prop} {s' : Shared} {a b c : Pos}, Go B [] s4 s' → Q rk' s' → wpAny (model prog w) A (eval (.Subscript (.Name (Str.ofString "row") a) (.Name (Str.ofString "k") b) c) (lawEnv L f cd)) Q E s' :=
    fun g q => ev_at (ldW (g.ns (by simp) n4) r4 ⟨rfl, ldC (env := lawEnv L f cd) (g.isCell (by simp) h64) ⟨rfl, g.isList (by simp) S4.row, hrk, by omega, q⟩ wk wk_k wc_k⟩ wk_row)
  have subT : ∀ p q : Pr, ∀ c ∈ (bel ps p).filter (fun c => !decide (c ∈ bel ps q)), Okp c := fun p q c hc => okb p c (List.mem_filter.mp hc).1
  -- if manager.is_suburi(row[k], row[i])
  refine wpAny_execs_cons (wpAny_If (wpAny_isTrue_value (ev_sub (env := lawEnv L f cd) (x := x) (dx := dx) (pl := _) F R (ldC (env := lawEnv L f cd) S4.man ⟨rfl, S4.stays, S4.mgr, ldRk (.refl ..) (ldRi (.refl ..) ⟨pk, pi, S4.stays, trk, tri, okk.1, oki.1, by omega, fun s5 k5 => wpAny_truthy_bool ?_⟩)⟩ wk wk_manager wc_manager) (by with_unfolding_all rfl) (by with_unfolding_all rfl) (by with_unfolding_all rfl)) (by with_unfolding_all rfl)))
  have S5 := S4.go0 k5
  have n5 := k5.ns (by simp) n4
  have pl5 := k5.plain (by simp) pl4
  have h55 := k5.isCell (by simp) h54
  have h65 := k5.isCell (by simp) h64
  have vt5 := vt4.go k5 .nil
  have lI5 := lI4.go k5 .nil (fun _ _ => by simp)
  have lK5 := lK4.go k5 .nil (fun _ _ => by simp)
  cases hs : isSub pk pi with
  | true =>
    rw [if_pos rfl]
    rw [told_up rise hs] at vt5
    -- told != ([], [one for one in below[k] if one not in below[i]])
    refine wpAny_execs_cons (wpAny_If (wpAny_isTrue_Compare1 (ldW n5 upd_eq (ev_two (B := B) (R := ([], (bel ps pk).filter fun c => !decide (c ∈ bel ps pi))) (ev_nil (B := B) fun l0 s6 _ k6 hp6 => ?_) (by with_unfolding_all rfl) (by with_unfolding_all rfl)) wk_told)))
    refine comp_not (B := B) (cl := cl2 L) (cI := L + 5) (cK := L + 6) R (S5.go0 k6) (k6.plain (by simp) pl5) (k6.isCell (by simp) h55) (k6.isCell (by simp) h65) hvk hvi (lK5.go k6 .nil (fun _ _ => by simp)) (lI5.go k6 .nil (fun _ _ => by simp)) (okb pk) (okb pi) (by omega) (by omega) (by omega) (by with_unfolding_all rfl) (by decide) (by with_unfolding_all rfl) (by decide) (by with_unfolding_all rfl) wk_k wc_k (fun _ => by with_unfolding_all rfl) (fun _ => by with_unfolding_all rfl) (fun _ => by with_unfolding_all rfl) (fun _ => by with_unfolding_all rfl) (by with_unfolding_all rfl) (by with_unfolding_all rfl) (by decide) (by decide) fun s7 v7 k7 l7 => ⟨?_, l7, fun s8 v8 k8 hv8 => ?_⟩
    · exact ⟨l0, [], rfl, (k7.plain (by simp) hp6).isList, trivial⟩
    · refine ne_two (((vt5.go k6 .nil).go k7 .nil).go k8 .nil) hv8 (by simp) (subT pk pi) (by simp) (subT pk pi) (by omega) (wpAny_truthy_bool ?_)
      rw [if_neg (by simp)]
      exact wpAny_execs_nil (wpAny_execs_nil (wpAny_execs_nil (fin s8 (((k5.trans k6).trans k7).trans k8))))
  | false =>
    rw [if_neg (by decide)]
    -- elif not manager.is_suburi(row[i], row[k])
    refine wpAny_execs_cons (wpAny_If (wpAny_isTrue_Not (wpAny_isTrue_value (ev_sub (env := lawEnv L f cd) (x := x) (dx := dx) (pl := _) F R (ldC (env := lawEnv L f cd) S5.man ⟨rfl, S5.stays, S5.mgr, ldRi k5 (ldRk k5 ⟨pi, pk, S5.stays, tri.go k5 .nil, trk.go k5 .nil, oki.1, okk.1, by omega, fun s6 k6 => wpAny_truthy_bool ?_⟩)⟩ wk wk_manager wc_manager) (by with_unfolding_all rfl) (by with_unfolding_all rfl) (by with_unfolding_all rfl)) (by with_unfolding_all rfl))))
    have S6 := S5.go0 k6
    have n6 := k6.ns (by simp) n5
    have pl6 := k6.plain (by simp) pl5
    have h56 := k6.isCell (by simp) h55
    have h66 := k6.isCell (by simp) h65
    have vt6 := vt5.go k6 .nil
    have lI6 := lI5.go k6 .nil (fun _ _ => by simp)
    have lK6 := lK5.go k6 .nil (fun _ _ => by simp)
    cases hs2 : isSub pi pk with
    | false =>
      rw [if_pos (by decide)]
      rw [told_off rise hs hs2] at vt6
      -- told != (below[i], below[k])
      refine wpAny_execs_cons (wpAny_If (wpAny_isTrue_Compare1 (ldW n6 upd_eq (ev_two (B := B) (R := (bel ps pi, bel ps pk)) (ldBi S6.bel h56 pl6 (ldBk S6.bel h66 pl6 ⟨lI6, lK6, fun s7 v7 k7 hv7 => ?_⟩)) (by with_unfolding_all rfl) (by with_unfolding_all rfl)) wk_told)))
      refine ne_two (vt6.go k7 .nil) hv7 (okb pi) (okb pk) (okb pi) (okb pk) (by omega) (wpAny_truthy_bool ?_)
      rw [if_neg (by simp)]
      exact wpAny_execs_nil (wpAny_execs_nil (wpAny_execs_nil (wpAny_execs_nil (fin s7 ((k5.trans k6).trans k7)))))
    | true =>
      rw [if_neg (by decide)]
      rw [told_down rise hs2] at vt6
      refine wpAny_execs_cons (wpAny_If (wpAny_isTrue_Compare1 (ldW n6 upd_eq (ev_two (B := B) (R := ((bel ps pi).filter (fun c => !decide (c ∈ bel ps pk)), [])) ?_ (by with_unfolding_all rfl) (by with_unfolding_all rfl)) wk_told)))
      refine comp_not (B := B) (cl := cl3 L) (cI := L + 6) (cK := L + 5) R S6 pl6 h66 h56 hvi hvk lI6 lK6 (okb pi) (okb pk) (by omega) (by omega) (by omega) (by with_unfolding_all rfl) (by decide) (by with_unfolding_all rfl) (by decide) (by with_unfolding_all rfl) wk_i wc_i (fun _ => by with_unfolding_all rfl) (fun _ => by with_unfolding_all rfl) (fun _ => by with_unfolding_all rfl) (fun _ => by with_unfolding_all rfl) (by with_unfolding_all rfl) (by with_unfolding_all rfl) (by decide) (by decide) fun s7 v7 k7 l7 => ?_
      refine ev_nil (B := B) fun l0 s8 _ k8 hp8 => ⟨l7.go k8 .nil (fun _ _ => by simp), ⟨l0, [], rfl, hp8.isList, trivial⟩, fun s9 v9 k9 hv9 => ?_⟩
      refine ne_two (((vt6.go k7 .nil).go k8 .nil).go k9 .nil) hv9 (subT pi pk) (by simp) (subT pi pk) (by simp) (by omega) (wpAny_truthy_bool ?_)
      rw [if_neg (by simp)]
      exact wpAny_execs_nil (wpAny_execs_nil (wpAny_execs_nil (wpAny_execs_nil (fin s9 ((((k5.trans k6).trans k7).trans k8).trans k9)))))
end
end Mine

namespace Mine

section
variable {prog : Program} {w : World} {A : Around} {E : Value → Shared → Prop} {s : Shared} {B : Heap} {Fg : Frag} {mg mb : Str → Option Value} {C fI fS fR fC fD L f lr lb x dx : Addr} {cdI cdS cdR cdC cdD cd : Value} {rvs bvs : List Value} {ps : List Pr} {i : Nat} {ti : Tok} {m : Str → Option Value}

/-- range(len(row)) -/
theorem ev_rl {q1 q2 q3 q4 q5 : Pos} {Q : Value → Shared → Prop} (F : Fns Fg B mg mb C fI fS fR fC fD cdI cdS cdR cdC cdD) (S : St B C L lr lb x dx rvs ps s) (hn : s.heap.Ns L m) (hr : m (Str.ofString "row") = some (.ref lr)) (hlen : ps.length ≤ 9)
    (h : ∀ s' r t u v, Go B [] s s' → IsRange s'.heap r 0 (ps.length : Int) 1 t u v → Q (.ref r) s') :
    wpAny (model prog w) A (eval (.Call (.Name (Str.ofString "range") q1) [.Call (.Name (Str.ofString "len") q2) [.Name (Str.ofString "row") q3] [] q4] [] q5) (lawEnv L f cd)) Q E s := by
  have lT := S.tups.length
  refine wpAny_Call_ofName (ldBu F.gl S.stays F.nRange F.bRange ?_ wk wk_range rfl rfl)
  refine callWith_type1 (spliced_more ?_ (by with_unfolding_all rfl)) (by with_unfolding_all rfl) (by with_unfolding_all rfl)
  refine wpAny_Call_ofName (ldBu F.gl S.stays F.nLen F.bLen ?_ wk wk_len rfl rfl)
  refine callWith_method1 (first := []) (spliced_more (ldW hn hr (spliced_none ?_) wk_row) (by with_unfolding_all rfl)) (by with_unfolding_all rfl) (by with_unfolding_all rfl)
  refine len_list S.row (by rw [List.size_toArray]; omega) ?_
  refine spliced_none (call_range_1 ?_)
  have e : (((rvs.toArray).size : Nat) : Int) = (ps.length : Int) := by rw [List.size_toArray, lT]
  rw [e]
  exact h _ _ _ _ _ (Go.push (s := s) _) (IsRange.new _ _ _ _ _ _ _)

/-- the state of the loop over i -/
def KI (L lr : Addr) (s : Shared) : Prop := KK L lr s ∧ ∃ v5, s.heap.IsCell (L + 5) v5
theorem KI.keep {a : Addr} {s1 s2 : Shared} (x : KI L lr s1) (g : Go B [a] s1 s2) (hf : Fld s1.heap a) : KI L lr s2 :=
  ⟨x.1.keep g hf, x.2.imp fun _ h => g.isCell (fld_cell hf h) h⟩

def iBody : List Stmt := forBody ((bodyOf lawS).getD 4 (.Pass ⟨0, 0, 0, 0⟩))

theorem i_turn {pos : Pos} (F : Fns Fg B mg mb C fI fS fR fC fD cdI cdS cdR cdC cdD) (R : Rm A) (hfr : A.frames = some [lawEnv L f cd]) (P : Ap L lr lb x dx) (S : St B C L lr lb x dx rvs ps s) (hB : ∀ j : Nat, j ≤ 6 → B.get? (L + j) = none)
    (pl : s.heap.PlainList lb bvs.toArray) (hb : Bels s.heap lb ps bvs) (hbl : bvs.length = ps.length) (rise : ps.Pairwise fun p q => plt p q = true)
    (gp : ∀ q ∈ ps, Gp 6 q) (hlen : ps.length ≤ 9) (hi : i < ps.length) (hk : KI L lr s) :
    wpAny (model prog w) A (assign (.Name (Str.ofString "i") pos) (lawEnv L f cd) (.int (i : Int) ti)) (fun _ s2 => wpAny (model prog w) A (execs iBody (lawEnv L f cd)) (fun fl s3 => match fl with
      | .next | .cont => Go B [L, L + 5, L + 6] s s3 ∧ KI L lr s3
      | .brk => False
      | .ret _ => False) (fun _ _ => False) s2) (fun _ _ => False) s := by
  obtain ⟨⟨m, vk, hns, e1, h6⟩, v5, h5⟩ := hk
  have c65 : L + 6 ∉ [L + 5] := by simpa using fun q => ofs (L := L) 6 5 (by decide) q
  refine wpAny_assign_Name (stC (B := B) (env := lawEnv L f cd) h5 (hB 5 (by decide)) (fun s2 k2 h52 => ?_) wk wk_i wc_i)
  have sf : Soft s.heap lb [L + 5] := .cell h5
  have n2 := k2.ns (by simpa using Ne.symm (ns_cell hns h5)) hns
  have h62 := k2.isCell c65 h6
  have S2 := S.mv P (fun a ha => by rw [List.mem_singleton.mp ha]; exact .inr (.inr (.inr (.inl rfl)))) k2 sf.tup
  have b2 := hb.go k2 sf
  have pl2 := k2.plain (by simpa using P.flb 5 (by decide)) pl
  refine wpAny_execs_cons (wpAny_For (ev_rl F S2 n2 e1 hlen fun s3 r t u v k3 hr => ?_) (by intro _; with_unfolding_all rfl))
  have S3 := S2.go0 k3
  have n3 := k3.ns (by simp) n2
  have h63 := k3.isCell (by simp) h62
  have h53 := k3.isCell (by simp) h52
  have g3 : Go B [L, L + 5, L + 6] s s3 := (k2.mono fun b hb => by rw [List.mem_singleton.mp hb]; exact .tail _ (.head _)).trans k3.nil
  have soft : Soft s3.heap lb [L, L + 6] := fun a ha => by
    rcases List.mem_cons.mp ha with rfl | ha
    · exact .inr (NoSeq.ns n3)
    · rw [List.mem_singleton.mp ha]; exact .inr (NoSeq.cell h63)
  have mv : Mv L lb [L, L + 6] := fun a ha => by
    rcases List.mem_cons.mp ha with rfl | ha
    · exact .inl rfl
    · rw [List.mem_singleton.mp ha]; exact .inr (.inr (.inr (.inr (.inl rfl))))
  have l5 : L + 5 ∉ [L, L + 6] := by simpa using And.intro (ns_cell n3 h53) (fun q => ofs (L := L) 5 6 (by decide) q)
  have hlb : lb ∉ [L, L + 6] := by simpa using And.intro (P.flb 0 (by decide)) (P.flb 6 (by decide))
  refine for_range (B := B) [L, L + 6] (fun _ s => KK L lr s) R.handled S3.stays hr (by omega) ?_ (fun i s1 s2 a x y z => x.keep y z) ⟨m, _, n3, e1, h63⟩ (fun k tk s4 hk k4 hkk => ?_) fun s4 k4 hkk => ?_
  · intro a ha
    rcases List.mem_cons.mp ha with rfl | ha
    · obtain ⟨o, _, _, e, _⟩ := n3
      rw [e]; simp
    · rw [List.mem_singleton.mp ha]
      obtain ⟨o, e, _⟩ := h63
      rw [e]; simp
  · refine wpAny_mono (k_turn F R hfr P (S3.mv P mv k4 soft.tup) (hB 0 (by decide)) (hB 6 (by decide)) (k4.plain hlb (k3.plain (by simp) pl2)) ((b2.go k3 .nil).go k4 soft) hbl rise gp hlen hi hk (k4.isCell l5 h53) hkk) (fun _ s5 h5 => wpAny_mono h5 (fun fl s6 h6 => ?_) fun _ _ x => x) fun _ _ x => x
    cases fl with
    | next => exact h6
    | cont => exact h6
    | brk => exact h6.elim
    | ret v => exact h6.elim
  · refine wpAny_execs_nil ⟨g3.trans (k4.mono fun b hb => ?_), hkk, _, k4.isCell l5 h53⟩
    rcases List.mem_cons.mp hb with rfl | hb
    · exact .head _
    · rw [List.mem_singleton.mp hb]; exact .tail _ (.tail _ (.head _))
end
end Mine

namespace Mine

section
variable {prog : Program} {w : World} {A : Around} {E : Value → Shared → Prop} {s : Shared} {B : Heap} {Fg : Frag} {mg mb : Str → Option Value} {C fI fS fR fC fD L f ls : Addr} {cdI cdS cdR cdC cdD cd : Value} {svs : List Value} {ns : List Int} {m : Str → Option Value} {Q : Flow → Shared → Prop}

set_option maxHeartbeats 4000000 in
theorem law_body (F : Fns Fg B mg mb C fI fS fR fC fD cdI cdS cdR cdC cdD) (R : Rm A) (hfr : A.frames = some [lawEnv L f cd]) (hS : B.StaysIn s.heap) (hB : ∀ j : Nat, j ≤ 6 → B.get? (L + j) = none)
    (hns : s.heap.Ns L m) (hm : m (Str.ofString "script") = some (.ref ls)) (hc : ∀ j : Nat, 1 ≤ j → j ≤ 6 → ∃ v, s.heap.IsCell (L + j) v)
    (hl : s.heap.IsList ls svs.toArray) (hI : IntsAre svs ns) (hz : svs.length ≤ 1000)
    (h : ∀ s' m', s' = { s with heap := s'.heap, toks := s'.toks } → B.StaysIn s'.heap → s'.heap.Ns L m' → Q (.ret (.bool true)) s') :
    wpAny (model prog w) A (execs (bodyOf lawS) (lawEnv L f cd)) Q E s := by
  have U := R.units
  have D := R.room
  have hBL : B.get? L = none := hB 0 (by decide)
  -- row = _law_row(script)
  refine wpAny_execs_cons (wpAny_Assign_Name (wpAny_Call_ofName (ldGl F.gl hS F.gRow (cw_fn F.row (spliced_more (ldW hns hm (spliced_none ⟨hS, ?_⟩) wk_script) (by with_unfolding_all rfl)) (by with_unfolding_all rfl)) wk wk_lr rfl)) (by with_unfolding_all rfl))
  refine row_call F.row hS F.lim (by omega) (by omega) R.handled F.gl F.nLen F.bLen F.nSorted F.bSorted hl hI hz fun s1 lr rvs ps k1 hp1 t1 rise gp hlen => ?_
  refine stW (B := B) (k1.ns (by simp) hns) hBL (fun s2 k2 n2 => ?_) wk_row
  have n1 := k1.ns (by simp) hns
  have ntL := (NoSeq.ns n1).tup
  have cL : ∀ j : Nat, 1 ≤ j → L + j ∉ [L] := fun j hj q => ofs (L := L) j 0 (by omega) (List.mem_singleton.mp q)
  have c2 : ∀ j : Nat, 1 ≤ j → j ≤ 6 → ∃ v, s2.heap.IsCell (L + j) v := fun j a b => (hc j a b).imp fun _ h => k2.isCell (cL j a) (k1.isCell (by simp) h)
  have lr0 : lr ≠ L := ne_ns_plain n1 hp1
  have hp2 := k2.plain (by simpa using lr0) hp1
  have t2 := t1.go k2 ntL
  have S2 := k2.base (k1.base hS)
  have flr : ∀ j : Nat, j ≤ 6 → lr ≠ L + j := fun j hj => by
    by_cases h0 : 1 ≤ j
    · obtain ⟨v, hv⟩ := c2 j h0 hj
      exact (list_cell hp2.isList hv).symm
    · have : j = 0 := by omega
      rw [this]; exact lr0
  have ex2 : ∀ j : Nat, j ≤ 6 → s2.heap.get? (L + j) ≠ none := fun j hj => by
    by_cases h0 : 1 ≤ j
    · obtain ⟨v, o, e, _⟩ := c2 j h0 hj
      rw [e]; simp
    · have : j = 0 := by omega
      rw [this]
      obtain ⟨o, _, _, e, _⟩ := n2
      rw [show L + 0 = L from rfl, e]; simp
  have same2 : s2 = { s with heap := s2.heap, toks := s2.toks } := by rw [k2.same, k1.same]
  -- manager = HTTPPasswordMgr()
  refine wpAny_execs_cons (wpAny_Assign_Name (wpAny_Call_ofName (ldGl F.gl S2 F.gCls (callWith_K0 (F.mgr.inB.keeps S2) F.keep (mgr_call F.mgr S2 F.lim (by omega) fun s3 x dx k3 hx3 hd3 hxd hm3 => ?_)) wk wk_cls rfl)) (by with_unfolding_all rfl))
  obtain ⟨v1, c21⟩ := c2 1 (by decide) (by decide)
  refine stC (B := B) (env := lawEnv L f cd) (k3.isCell (by simp) c21) (hB 1 (by decide)) (fun s4 k4 h14 => ?_) wk wk_manager wc_manager
  have ns1 := NoSeq.cell (k3.isCell (X := []) (by simp) c21)
  have fx : ∀ j : Nat, j ≤ 6 → x ≠ L + j := fun j hj q => ex2 j hj (by rw [← q]; exact hx3)
  have fdx : ∀ j : Nat, j ≤ 6 → dx ≠ L + j := fun j hj q => ex2 j hj (by rw [← q]; exact hd3)
  have n4 := k4.ns (by simpa using fun q => ofs (L := L) 0 1 (by decide) q) (k3.ns (by simp) n2)
  have hp4 := k4.plain (by simpa using flr 1 (by decide)) (k3.plain (by simp) hp2)
  have t4 := (t2.go k3 .nil).go k4 ns1.tup
  have hm4 := hm3.go k4 (by simpa using fx 1 (by decide)) (by simpa using fdx 1 (by decide))
  have c4 : ∀ j : Nat, 2 ≤ j → j ≤ 6 → ∃ v, s4.heap.IsCell (L + j) v := fun j a b => (c2 j (by omega) b).imp fun _ h => k4.isCell (by simpa using fun q => ofs (L := L) j 1 (by omega) q) (k3.isCell (by simp) h)
  have S4 := k4.base (k3.base S2)
  have same4 : s4 = { s with heap := s4.heap, toks := s4.toks } := by rw [k4.same, k3.same, same2]
  -- below = []
  refine wpAny_execs_cons (wpAny_Assign_Name (ev_nil (B := B) fun lb s5 hb5 k5 hp5 => ?_) (by with_unfolding_all rfl))
  obtain ⟨v2, c42⟩ := c4 2 (by decide) (by decide)
  refine stC (B := B) (env := lawEnv L f cd) (k5.isCell (by simp) c42) (hB 2 (by decide)) (fun s6 k6 h26 => ?_) wk wk_below wc_below
  have ns2 := NoSeq.cell (k5.isCell (X := []) (by simp) c42)
  have ex4 : ∀ j : Nat, j ≤ 6 → s4.heap.get? (L + j) ≠ none := fun j hj => by
    by_cases h0 : 2 ≤ j
    · obtain ⟨v, o, e, _⟩ := c4 j h0 hj
      rw [e]; simp
    · by_cases h1 : j = 1
      · rw [h1]
        obtain ⟨o, e, _⟩ := h14
        rw [e]; simp
      · have : j = 0 := by omega
        rw [this]
        obtain ⟨o, _, _, e, _⟩ := n4
        rw [show L + 0 = L from rfl, e]; simp
  have flb : ∀ j : Nat, j ≤ 6 → lb ≠ L + j := fun j hj q => ex4 j hj (by rw [← q]; exact hb5)
  have lrb : lr ≠ lb := fun q => by
    obtain ⟨n, e⟩ := hp4
    rw [q, hb5] at e; cases e
  have xb : x ≠ lb := fun q => by
    obtain ⟨od, e, _⟩ := hm4
    rw [q, hb5] at e; cases e
  have db : dx ≠ lb := fun q => by
    obtain ⟨od, _, e, _⟩ := hm4
    rw [q, hb5] at e; cases e
  have P : Ap L lr lb x dx := ⟨flr, flb, fx, fdx, lrb, xb, db⟩
  have n6 := k6.ns (by simpa using fun q => ofs (L := L) 0 2 (by decide) q) (k5.ns (by simp) n4)
  have hp6 := k6.plain (by simpa using flb 2 (by decide)) hp5
  have S6 : St B C L lr lb x dx rvs ps s6 :=
    ⟨k6.base (k5.base S4), (k6.plain (by simpa using flr 2 (by decide)) (k5.plain (by simp) hp4)).isList, (t4.go k5 .nil).go k6 ns2.tup, k6.isCell (by simpa using fun q => ofs (L := L) 1 2 (by decide) q) (k5.isCell (by simp) h14), h26,
      (hm4.go k5 (by simp) (by simp)).go k6 (by simpa using fx 2 (by decide)) (by simpa using fdx 2 (by decide))⟩
  have c6 : ∀ j : Nat, 3 ≤ j → j ≤ 6 → ∃ v, s6.heap.IsCell (L + j) v := fun j a b => (c4 j (by omega) b).imp fun _ h => k6.isCell (by simpa using fun q => ofs (L := L) j 2 (by omega) q) (k5.isCell (by simp) h)
  have same6 : s6 = { s with heap := s6.heap, toks := s6.toks } := by rw [k6.same, k5.same, same4]
  have hBb : B.get? lb = none := none_of_stays S4 hb5
  have r6 : (fun y => if y = Str.ofString "row" then some (Value.ref lr) else m y) (Str.ofString "row") = some (.ref lr) := if_pos rfl
  clear k1 k2 k3 k4 k5 ns1 ns2 hp1 t1 hp2 t2 hp4 t4 hm3 hm4 same2 same4 c2 c4 ex2 ex4 n1 n2 n4 hp5
  obtain ⟨v3, c63⟩ := c6 3 (by decide) (by decide)
  obtain ⟨v4, c64⟩ := c6 4 (by decide) (by decide)
  obtain ⟨v5, c65⟩ := c6 5 (by decide) (by decide)
  obtain ⟨v6, c66⟩ := c6 6 (by decide) (by decide)
  have lT := S6.tups.length
  -- for host, path in row
  have soft6 : Soft s6.heap lb [L, L + 3, L + 4, lb] := fun a ha => by
    rcases List.mem_cons.mp ha with rfl | ha
    · exact .inr (NoSeq.ns n6)
    rcases List.mem_cons.mp ha with rfl | ha
    · exact .inr (NoSeq.cell c63)
    rcases List.mem_cons.mp ha with rfl | ha
    · exact .inr (NoSeq.cell c64)
    · exact .inl ⟨List.mem_singleton.mp ha, _, hp6.isList⟩
  have mv6 : Mv L lb [L, L + 3, L + 4, lb] := fun a ha => by
    rcases List.mem_cons.mp ha with rfl | ha
    · exact .inl rfl
    rcases List.mem_cons.mp ha with rfl | ha
    · exact .inr (.inl rfl)
    rcases List.mem_cons.mp ha with rfl | ha
    · exact .inr (.inr (.inl rfl))
    · rw [List.mem_singleton.mp ha]; exact .inr (.inr (.inr (.inr (.inr rfl))))
  have out6 := mv6.apart P
  refine wpAny_execs_cons (wpAny_For (ldW n6 r6 ?_ wk_row) (by intro _; with_unfolding_all rfl))
  refine for_list (B := B) [L, L + 3, L + 4, lb] (OK L lr lb ps) R.handled S6.stays S6.row out6.1 ?_ (fun i s1 s2 a x y z => x.keep y z) ⟨_, [], _, _, n6, r6, c63, c64, hp6, rfl, fun j v e => by simp at e⟩ (own_tuple S6.tups) (fun i v s7 hv k7 hk => ?_) fun s7 k7 hk => ?_
  · intro a ha
    rcases List.mem_cons.mp ha with rfl | ha
    · obtain ⟨o, _, _, e, _⟩ := n6
      rw [e]; simp
    rcases List.mem_cons.mp ha with rfl | ha
    · obtain ⟨o, e, _⟩ := c63
      rw [e]; simp
    rcases List.mem_cons.mp ha with rfl | ha
    · obtain ⟨o, e, _⟩ := c64
      rw [e]; simp
    · rw [List.mem_singleton.mp ha]
      obtain ⟨n, e⟩ := hp6
      rw [e]; simp
  · obtain ⟨p, hpi, tv⟩ := S6.tups.get hv
    refine wpAny_mono (outer_turn F R P (S6.mv P mv6 k7 soft6.tup) hBL (hB 3 (by decide)) (hB 4 (by decide)) hBb gp hlen (tv.go k7 soft6.tup) hpi hk) (fun _ s8 h8 => wpAny_mono h8 (fun fl s9 h9 => ?_) fun _ _ x => x) fun _ _ x => x
    cases fl with
    | next => exact h9
    | cont => exact h9
    | brk => exact h9.elim
    | ret v => exact h9.elim
  obtain ⟨m7, bvs, _, _, n7, r7, _, _, hp7, hbl, b7⟩ := hk
  have S7 := S6.mv P mv6 k7 soft6.tup
  have nin : ∀ j : Nat, 5 ≤ j → j ≤ 6 → L + j ∉ [L, L + 3, L + 4, lb] := fun j h5 h6 q => by
    rcases List.mem_cons.mp q with q | q
    · exact ofs (L := L) j 0 (by omega) q
    rcases List.mem_cons.mp q with q | q
    · exact ofs (L := L) j 3 (by omega) q
    rcases List.mem_cons.mp q with q | q
    · exact ofs (L := L) j 4 (by omega) q
    · exact flb j h6 (List.mem_singleton.mp q).symm
  have c75 := k7.isCell (nin 5 (by decide) (by decide)) c65
  have c76 := k7.isCell (nin 6 (by decide) (by decide)) c66
  have same7 : s7 = { s with heap := s7.heap, toks := s7.toks } := by rw [k7.same, same6]
  rw [lT] at hbl
  -- for i in range(len(row))
  refine wpAny_execs_cons (wpAny_For (ev_rl F S7 n7 r7 hlen fun s8 r t u v k8 hr => ?_) (by intro _; with_unfolding_all rfl))
  have S8 := S7.go0 k8
  have n8 := k8.ns (by simp) n7
  have c85 := k8.isCell (by simp) c75
  have c86 := k8.isCell (by simp) c76
  have b8 := b7.go k8 .nil
  have hp8 := k8.plain (by simp) hp7
  have soft8 : Soft s8.heap lb [L, L + 5, L + 6] := fun a ha => by
    rcases List.mem_cons.mp ha with rfl | ha
    · exact .inr (NoSeq.ns n8)
    rcases List.mem_cons.mp ha with rfl | ha
    · exact .inr (NoSeq.cell c85)
    · rw [List.mem_singleton.mp ha]; exact .inr (NoSeq.cell c86)
  have mv8 : Mv L lb [L, L + 5, L + 6] := fun a ha => by
    rcases List.mem_cons.mp ha with rfl | ha
    · exact .inl rfl
    rcases List.mem_cons.mp ha with rfl | ha
    · exact .inr (.inr (.inr (.inl rfl)))
    · rw [List.mem_singleton.mp ha]; exact .inr (.inr (.inr (.inr (.inl rfl))))
  have lb8 : lb ∉ [L, L + 5, L + 6] := by simpa using And.intro (flb 0 (by decide)) (And.intro (flb 5 (by decide)) (flb 6 (by decide)))
  refine for_range (B := B) [L, L + 5, L + 6] (fun _ s => KI L lr s) R.handled S8.stays hr (by omega) ?_ (fun i s1 s2 a x y z => x.keep y z) ⟨⟨m7, _, n8, r7, c86⟩, _, c85⟩ (fun i ti s9 hi k9 hk => ?_) fun s9 k9 hk => ?_
  · intro a ha
    rcases List.mem_cons.mp ha with rfl | ha
    · obtain ⟨o, _, _, e, _⟩ := n8
      rw [e]; simp
    rcases List.mem_cons.mp ha with rfl | ha
    · obtain ⟨o, e, _⟩ := c85
      rw [e]; simp
    · rw [List.mem_singleton.mp ha]
      obtain ⟨o, e, _⟩ := c86
      rw [e]; simp
  · refine wpAny_mono (i_turn F R hfr P (S8.mv P mv8 k9 soft8.tup) hB (k9.plain lb8 hp8) (b8.go k9 soft8) hbl rise gp hlen hi hk) (fun _ s10 h10 => wpAny_mono h10 (fun fl s11 h11 => ?_) fun _ _ x => x) fun _ _ x => x
    cases fl with
    | next => exact h11
    | cont => exact h11
    | brk => exact h11.elim
    | ret v => exact h11.elim
  · obtain ⟨⟨m9, _, n9, _⟩, _⟩ := hk
    refine wpAny_execs_cons (wpAny_Return_some (wpAny_Constant_bool (h s9 m9 ?_ (k9.base S8.stays) n9)))
    rw [k9.same, k8.same, same7]
end
end Mine

namespace Mine
set_option maxHeartbeats 8000000
open_top hd for PySem.Challenge.rw_mq0200_01
end Mine

namespace Mine
set_option maxHeartbeats 8000000
theorem fn_at {K : Frag} {B : Heap} {f : Addr} {qual name : Str} {S : Stmt} {cd oc doc pm ct : Value} {an od : Option Addr} {osl : Array (Option Value)} (X : K.In B) (e : K.lookup f = some ⟨oc, od, .func (fnOf name qual (argsOf S) (bodyOf S) (scopeOf S) .none .none doc pm an cd ct), osl⟩)
    (hc : codeIn K cd qual = true) : FnAt B f qual S cd := ⟨⟨_, _, _, _, _, _, X _ _ e, rfl⟩, codeRec_of X hc⟩
section
variable {w : World} {B : Heap} (KX : (hd.heap_39 w.params).In B)
include KX
theorem at_row : FnAt B 92 (Str.ofString "_law_row") rowS (.ref 91) := fn_at KX (by rfl) (by rfl)
theorem at_cmp : FnAt B 35 (Str.ofString "three_way_cmp") cmpS (.ref 34) := fn_at KX (by rfl) (by rfl)
theorem at_sld : FnAt B 28 (Str.ofString "sorted_list_difference") sldS (.ref 27) := fn_at KX (by rfl) (by rfl)
theorem at_init : FnAt B 49 (Str.ofString "HTTPPasswordMgr.__init__") initS (.ref 48) := fn_at KX (by rfl) (by rfl)
theorem at_sub : FnAt B 78 (Str.ofString "HTTPPasswordMgr.is_suburi") subS (.ref 77) := fn_at KX (by rfl) (by rfl)
theorem the_mgr : Mgr (hd.heap_39 w.params) B 81 49 78 (.ref 48) where
  inB := KX
  makes := by rfl
  init := by rfl
  fn := by rfl
  code := at_init KX
  set := by rfl
  over := by rfl
  taker := by rfl
  has := by rfl
  ga := by rfl
  gk := by rfl
  sub := by rfl
  sfn := by rfl
theorem the_fns {mean : ExcName → Option Value} {mg mb : Str → Option Value} (Tp : Top hd.view_39 (looseW hd.view_39 []) mean mg mb B) : Fns (hd.heap_39 w.params) B mg mb 81 49 78 92 35 28 (.ref 48) (.ref 77) (.ref 91) (.ref 34) (.ref 27) where
  mgr := the_mgr KX
  sub := at_sub KX
  row := at_row KX
  cmp := at_cmp KX
  sld := at_sld KX
  lim := Tp.nolimit
  gl := ⟨Tp.g, Tp.b⟩
  gRow := mg_of KX Tp.g (by rfl)
  gCls := mg_of KX Tp.g (by rfl)
  gCmp := mg_of KX Tp.g (by rfl)
  gSld := mg_of KX Tp.g (by rfl)
  nLen := mg_none_of KX Tp.g (by rfl)
  bLen := (Tp.builtins _ (by decide)).trans (by rfl)
  nRange := mg_none_of KX Tp.g (by rfl)
  bRange := (Tp.builtins _ (by decide)).trans (by rfl)
  nSorted := mg_none_of KX Tp.g (by rfl)
  bSorted := (Tp.builtins _ (by decide)).trans (by rfl)
  nIE := mg_none_of KX Tp.g (by rfl)
  bIE := (Tp.builtins _ (by decide)).trans (by rfl)
  keep := by rfl
end
theorem rm {env : Env} : Rm (callerA.deeper env) := ⟨by show callerA.depth + 1 + 8 < recursionLimit; decide +kernel, by rw [Around.deeper_units]; decide +kernel, rfl⟩
end Mine

namespace Mine
set_option maxHeartbeats 8000000
theorem holds : PySem.Challenge.rw_mq0200_01.Holds := by
  refine hd ?_
  w_strict (k_go0
            rename_i w s₀ s₁ mg mb G Y fa o pm doc ho hg KX X V GL Tp Bt TE TW w15 w14 M w13 w12 hcd w11 hs hlay0 hL1 hr1 hl2 w10 w9 w8 w7 w6 hL ra w1 r0 hI hr hc1 hc0 K0 hD h₁ tk₁ F o6 o5 o4 o3 o2 o1 l6 l5 l4 l3 l2 l1 N0 X0
            refine law_body (B := s₁.heap) (L := s₁.heap.objs.size) (the_fns KX Tp) rm (Around.frames_deeper rfl) F.keep (fun j hj => Heap.get?_none_of_le (Nat.le_add_right _ _)) F.ns ?_ ?_ (stays_list F.keep hL) hI ?_ (fun s' m' e hS' n' => ?_)
            · with_unfolding_all rfl
            · intro j h1 h6
              have e : j = 1 ∨ j = 2 ∨ j = 3 ∨ j = 4 ∨ j = 5 ∨ j = 6 := by omega
              rcases e with rfl | rfl | rfl | rfl | rfl | rfl
              · exact ⟨_, o1, (N0 (_, o1) (.tail _ (.tail _ (.tail _ (.tail _ (.tail _ (.head _))))))).1, l1⟩
              · exact ⟨_, o2, (N0 (_, o2) (.tail _ (.tail _ (.tail _ (.tail _ (.head _)))))).1, l2⟩
              · exact ⟨_, o3, (N0 (_, o3) (.tail _ (.tail _ (.tail _ (.head _))))).1, l3⟩
              · exact ⟨_, o4, (N0 (_, o4) (.tail _ (.tail _ (.head _)))).1, l4⟩
              · exact ⟨_, o5, (N0 (_, o5) (.tail _ (.head _))).1, l5⟩
              · exact ⟨_, o6, (N0 (_, o6) (.head _)).1, l6⟩
            · have := hI.length
              omega
            · have F' : Fr s₁.heap s₁.heap.objs.size s'.heap m' := ⟨n', hS', Nat.le_refl _⟩
              have hg' : s'.gens = #[] := by rw [e]; exact hg
              have ho' : s'.os = s₁.os := by rw [e]
              refine goodW_bool F' hg' (raisesW_false ?_) ?_ ho'
              · wrow_none_raised
              · first | kc_post | wrow_post)
end Mine

theorem PySem.Challenge.cw_mq0200_01_holds : PySem.Challenge.rw_mq0200_01.Holds :=
  Mine.holds
