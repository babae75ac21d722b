import PyProof.Rows.All
import Wide.All
import OpenK.AllK
import Wide.FinOn
import PySem.Challenge.RW_nq0156_01
open PySem PySem.W PyProof.Rows
set_option Elab.async false
set_option linter.unusedVariables false
section
namespace Mine
/-- a value without its token -/
inductive AV where
  | none
  | bool (b : Bool)
  | int (i : Int)
  | str (s : Str)
  | ref (a : Addr)
  | oth (v : Value)
  deriving DecidableEq
noncomputable def er : Value → AV
  | .none => .none
  | .bool b => .bool b
  | .int i _ => .int i
  | .str s _ => .str s
  | .ref a => .ref a
  | v => .oth v
theorem er_int {v : Value} {i : Int} (h : er v = .int i) : ∃ t, v = .int i t := by
  cases v <;> simp_all [er]
theorem er_str {v : Value} {i : Str} (h : er v = .str i) : ∃ t, v = .str i t := by
  cases v <;> simp_all [er]
theorem er_ref {v : Value} {i : Addr} (h : er v = .ref i) : v = .ref i := by
  cases v <;> simp_all [er]
theorem er_bool {v : Value} {i : Bool} (h : er v = .bool i) : v = .bool i := by
  cases v <;> simp_all [er]
theorem er_none {v : Value} (h : er v = .none) : v = .none := by
  cases v <;> simp_all [er]
/-- keys of the dicts and sets met here: ints and bools by their number, texts -/
inductive PKey where
  | num (i : Int)
  | str (s : Str)
  deriving DecidableEq
noncomputable def AV.key : AV → Option PKey
  | .int i => some (.num i)
  | .bool b => some (.num (if b then 1 else 0))
  | .str s => some (.str s)
  | _ => Option.none
noncomputable def PKey.hash (w : World) : PKey → Int
  | .num i => hashInt i
  | .str s => hashStr w s
/-- what an object of the ledger is, tokens and counters of changes left out -/
inductive AO where
  | list (xs : List AV)
  | tuple (xs : List AV)
  | dict (es : List (AV × AV)) (ep : Nat)
  | set (S : PKey → Bool) (n : Nat)
  | exact (o : Obj)
  | attrs (es : List (Str × AV))
  | slots (C dx : Addr) (vs : List AV)
  | cell (v : Option AV)
  | like (P : Obj → Prop)
noncomputable def entryOk (w : World) (e : DictEntry) (kv : AV × AV) : Prop :=
  er e.key = kv.1 ∧ er e.val = kv.2 ∧ ∃ k, kv.1.key = some k ∧ e.hash = k.hash w
noncomputable def attrOk (w : World) (e : DictEntry) (kv : Str × AV) : Prop :=
  er e.val = kv.2 ∧ (∃ t, e.key = .str kv.1 t) ∧ e.hash = PyData.keyHash w.params kv.1
noncomputable def Rel2 {α β : Type} (R : α → β → Prop) : List α → List β → Prop
  | [], [] => True
  | a :: as, b :: bs => R a b ∧ Rel2 R as bs
  | _, _ => False
theorem Rel2.ind {α β : Type} {R : α → β → Prop} {P : List α → List β → Prop} (h0 : P [] []) (h1 : ∀ a as b bs, R a b → Rel2 R as bs → P as bs → P (a :: as) (b :: bs)) : ∀ (as : List α) (bs : List β), Rel2 R as bs → P as bs := fun as => by
  induction as with
  | nil =>
    intro bs h
    cases bs with
    | nil => exact h0
    | cons b bs => exact h.elim
  | cons a as ih =>
    intro bs h
    cases bs with
    | nil => exact h.elim
    | cons b bs => exact h1 a as b bs h.1 h.2 (ih bs h.2)
noncomputable def AO.ok (w : World) : AO → Obj → Prop
  | .list xs, o => ∃ vs n, o = { cls := .type "list", data := .seq (List.toArray vs) n } ∧ vs.map er = xs
  | .tuple xs, o => ∃ vs n, o = { cls := .type "tuple", data := .seq (List.toArray vs) n } ∧ vs.map er = xs
  | .dict es ep, o => o.ExactDict ∧ ∃ ds, o.data = .dict (List.toArray ds) ep ∧ Rel2 (entryOk w) ds es ∧ (es.map (·.1.key)).Nodup
  | .set S n, o => o.ExactSet ∧ ∃ (es : Array (Int × Value)) (ep : Nat) (t : SetTable), o.data = .set es ep t ∧ (∀ e ∈ es.toList, ∃ k, (er e.2).key = some k ∧ e.1 = k.hash w) ∧
      (∀ k, S k = true ↔ ∃ e ∈ es.toList, (er e.2).key = some k) ∧ es.size < scanBound ∧ t.fits es.size = true ∧ es.size = n
  | .exact o', o => o = o'
  | .attrs es, o => ∃ ds n, o = dictOf ds n ∧ Rel2 (attrOk w) ds es
  | .slots C dx xs, o => ∃ vs : List Value, o = ⟨.ref C, some dx, .plain, (vs.map some).toArray⟩ ∧ vs.map er = xs
  | .cell v, o => ∃ u, o.data = .cell u ∧ u.map er = v
  | .like P, o => P o
noncomputable abbrev Led := Addr → Option AO
noncomputable abbrev Loc := Str → Option AV
noncomputable def Led.set (σ : Led) (a : Addr) (o : AO) : Led := fun b => if b = a then some o else σ b
noncomputable def Loc.set (m : Loc) (x : Str) (v : AV) : Loc := fun y => if y = x then some v else m y
/-- the names of a frame, tokens left out -/
noncomputable def NsE (h : Heap) (L : Addr) (m : Loc) : Prop := ∃ m', h.Ns L m' ∧ ∀ x, (m' x).map er = m x
structure At (w : World) (B : Heap) (fs : List (Addr × Loc)) (h : Heap) (σ : Led) : Prop where
  keep : ∀ b o, B.get? b = some o → h.get? b = some o
  frames : ∀ p ∈ fs, NsE h p.1 p.2
  above : ∀ p ∈ fs, B.get? p.1 = none
  nodup : (fs.map (·.1)).Nodup
  led : ∀ a ao, σ a = some ao → ∃ o, h.get? a = some o ∧ ao.ok w o
  new : ∀ a ao, σ a = some ao → B.get? a = none
  apart : ∀ a ao, σ a = some ao → ∀ p ∈ fs, a ≠ p.1
/-- an exception object in flight, outside the ledger; f: the frame whose mark it may bear -/
inductive TrIn (B : Heap) (fs : List (Addr × Loc)) (f : Addr) (h : Heap) (σ : Led) (a : Addr) (vs : Array Value) : Prop
  | mk (T : Addr) (oT : Obj) (ts : Array Value) (mk : Value) (t1 : vs[1]? = some (.ref T)) (t2 : T ≠ a) (t3 : h.get? T = some oT) (t4 : oT.data = .fields ts) (t5 : σ T = none) (t6 : B.get? T = none) (t7 : ∀ p ∈ fs, T ≠ p.1)
      (t8 : ts[3]? = some mk) (t9 : mk = .none ∨ mk = rawInt f) : TrIn B fs f h σ a vs
inductive ExcIn (B : Heap) (fs : List (Addr × Loc)) (f : Addr) (h : Heap) (σ : Led) (e : Value) (cls : Value) : Prop
  | mk (a : Addr) (o : Obj) (vs : Array Value) (h1 : e = .ref a) (h2 : h.get? a = some o) (h3 : o.cls = cls) (h4 : o.data = .fields vs) (h5 : σ a = none) (h6 : B.get? a = none) (h7 : ∀ p ∈ fs, a ≠ p.1)
      (h8 : vs[1]? = some .none ∨ TrIn B fs f h σ a vs) (h9 : vs[2]? = some .none) : ExcIn B fs f h σ e cls
/-- two ledgers side by side -/
noncomputable def Led.un (σ φ : Led) : Led := fun a => match σ a with | some o => some o | none => φ a
noncomputable def Dis (σ φ : Led) : Prop := ∀ a, σ a = none ∨ φ a = none
theorem Led.un_left {σ φ : Led} {a : Addr} {o : AO} (h : σ a = some o) : σ.un φ a = some o := by unfold Led.un; rw [h]
theorem Led.un_right {σ φ : Led} {a : Addr} (h : σ a = none) : σ.un φ a = φ a := by unfold Led.un; rw [h]
theorem Led.un_none {σ φ : Led} {a : Addr} (h : σ.un φ a = none) : σ a = none ∧ φ a = none := by
  unfold Led.un at h
  cases e : σ a with
  | none => rw [e] at h; exact ⟨rfl, h⟩
  | some o => rw [e] at h; cases h
theorem Led.un_set {σ φ : Led} {a : Addr} {o : AO} : (σ.set a o).un φ = (σ.un φ).set a o := by
  funext b; unfold Led.un Led.set; by_cases q : b = a <;> simp [q]
theorem Led.un_assoc {σ φ ψ : Led} : (σ.un φ).un ψ = σ.un (φ.un ψ) := by
  funext b; unfold Led.un; cases σ b <;> rfl
theorem Dis.un {σ φ ψ : Led} (h : Dis (σ.un φ) ψ) (h' : Dis σ φ) : Dis σ (φ.un ψ) := fun a => by
  rcases h' a with e | e
  · exact .inl e
  · cases q : σ a with
    | none => exact .inl rfl
    | some o =>
      rcases h a with r | r
      · rw [Led.un_left q] at r; cases r
      · right; rw [Led.un_right e]; exact r
theorem Dis.set {σ φ : Led} {a : Addr} {o : AO} (h : Dis σ φ) (ha : φ a = none) : Dis (σ.set a o) φ := fun b => by
  by_cases q : b = a
  · subst q; exact .inr ha
  · exact (h b).imp (fun e => (if_neg q : σ.set a o b = σ b).trans e) id
/-- what stands around a walk -/
structure Cx where
  prog : Program
  w : World
  A : Around
  B : Heap
  L : Addr
  f : Addr
  fs : List (Addr × Loc)
inductive PR (w : World) (B : Heap) (L : Addr) (fs : List (Addr × Loc)) (φ : Led) (g : Array GenState) (dr : Drawn) (os : OsState) (P : Loc → Led → Prop) (s' : Shared) : Prop
  | mk (h' : Heap) (tk : Nat) (m' : Loc) (σ' : Led) (e : s' = ⟨h', g, dr, tk, os⟩) (d : Dis σ' φ) (x : At w B ((L, m') :: fs) h' (σ'.un φ)) (q : P m' σ') : PR w B L fs φ g dr os P s'
noncomputable def PQ {α : Type} (c : Cx) (φ : Led) (s : Shared) (Q : α → Loc → Led → Prop) (a : α) (s' : Shared) : Prop := PR c.w c.B c.L c.fs φ s.gens s.drawn s.os (Q a) s'
inductive PX (w : World) (B : Heap) (L : Addr) (fs : List (Addr × Loc)) (f : Addr) (φ : Led) (g : Array GenState) (dr : Drawn) (os : OsState) (E : Value → Loc → Led → Prop) (v : Value) (s' : Shared) : Prop
  | mk (h' : Heap) (tk : Nat) (m' : Loc) (σ' : Led) (cls : Value) (e : s' = ⟨h', g, dr, tk, os⟩) (d : Dis σ' φ) (x : At w B ((L, m') :: fs) h' (σ'.un φ)) (y : ExcIn B ((L, m') :: fs) f h' (σ'.un φ) v cls) (q : E cls m' σ') : PX w B L fs f φ g dr os E v s'
noncomputable def PE (c : Cx) (φ : Led) (s : Shared) (E : Value → Loc → Led → Prop) (e : Value) (s' : Shared) : Prop := PX c.w c.B c.L c.fs c.f φ s.gens s.drawn s.os E e s'
noncomputable def W {α : Type} (c : Cx) (t : Sem α) (Q : α → Loc → Led → Prop) (E : Value → Loc → Led → Prop) (m : Loc) (σ : Led) : Prop :=
  ∀ (φ : Led) (s : Shared), Dis σ φ → At c.w c.B ((c.L, m) :: c.fs) s.heap (σ.un φ) → wpAny (model c.prog c.w) c.A t (PQ c φ s Q) (PE c φ s E) s
section
variable {α β : Type} {c : Cx} {E : Value → Loc → Led → Prop} {m : Loc} {σ φ : Led}
theorem PQ.re {Q : α → Loc → Led → Prop} {s : Shared} {h : Heap} {tk : Nat} {a : α} {s' : Shared} (x : PQ c φ { s with heap := h, toks := tk } Q a s') : PQ c φ s Q a s' := x
theorem PE.re {E : Value → Loc → Led → Prop} {s : Shared} {h : Heap} {tk : Nat} {a : Value} {s' : Shared} (x : PE c φ { s with heap := h, toks := tk } E a s') : PE c φ s E a s' := x
theorem PQ.here {Q : α → Loc → Led → Prop} {s : Shared} {a : α} {tk : Nat} (hd : Dis σ φ) (hA : At c.w c.B ((c.L, m) :: c.fs) s.heap (σ.un φ)) (h : Q a m σ) : PQ c φ s Q a { s with toks := tk } :=
  ⟨s.heap, tk, m, σ, rfl, hd, hA, h⟩
/-- the second of two trees, behind the first -/
theorem W_then {Q : β → Loc → Led → Prop} {f : α → Sem β} {s s₁ : Shared} {a : α} (x : PQ c φ s (fun a m σ => W c (f a) Q E m σ) a s₁) :
    wpAny (model c.prog c.w) c.A (f a) (PQ c φ s Q) (PE c φ s E) s₁ := by
  obtain ⟨h', tk', m', σ', rfl, hd, hA, hq⟩ := x
  exact wpAny_mono (hq φ _ hd hA) (fun _ _ y => y.re) (fun _ _ y => y.re)
theorem W_chain {Q : β → Loc → Led → Prop} {f : α → Sem β} {t : Sem α} {s : Shared} (x : wpAny (model c.prog c.w) c.A t (PQ c φ s (fun a m σ => W c (f a) Q E m σ)) (PE c φ s E) s) :
    wpAny (model c.prog c.w) c.A t (fun a s₁ => wpAny (model c.prog c.w) c.A (f a) (PQ c φ s Q) (PE c φ s E) s₁) (PE c φ s E) s :=
  wpAny_mono x (fun _ _ y => W_then y) fun _ _ y => y
theorem W_bind {t : Sem α} {f : α → Sem β} {Q : β → Loc → Led → Prop} (h : W c t (fun a m σ => W c (f a) Q E m σ) E m σ) : W c (t >>= f) Q E m σ :=
  fun φ s hd hA => wpAny_bind (W_chain (h φ s hd hA))
theorem W_pure {a : α} {Q : α → Loc → Led → Prop} (h : Q a m σ) : W c (Pure.pure a) Q E m σ :=
  fun _ s hd hA => wpAny_pure ⟨s.heap, s.toks, m, σ, rfl, hd, hA, h⟩
theorem W_mono {t : Sem α} {Q Q' : α → Loc → Led → Prop} {E' : Value → Loc → Led → Prop} (h : W c t Q E m σ) (hQ : ∀ a m σ, Q a m σ → Q' a m σ) (hE : ∀ a m σ, E a m σ → E' a m σ) : W c t Q' E' m σ :=
  fun φ s hd hA => wpAny_mono (h φ s hd hA) (fun _ _ ⟨h', tk, m', σ', e, d, a, q⟩ => ⟨h', tk, m', σ', e, d, a, hQ _ _ _ q⟩) (fun _ _ ⟨h', tk, m', σ', cls, e, d, a, x, q⟩ => ⟨h', tk, m', σ', cls, e, d, a, x, hE _ _ _ q⟩)
theorem W_holding {vs : List Value} {t : Sem α} {Q : α → Loc → Led → Prop} (h : W c t Q E m σ) : W c (holding vs t) Q E m σ := fun φ s hd hA => wpAny_holding (h φ s hd hA)
theorem W_standAt {p : Pos} {Q : Unit → Loc → Led → Prop} (h : Q () m σ) : W c (standAt p) Q E m σ := fun _ s hd hA => wpAny_standAt ⟨s.heap, s.toks, m, σ, rfl, hd, hA, h⟩
inductive Framed (φ₀ : Led) (Q : Led → Prop) (σ₂ : Led) : Prop
  | mk (σ' : Led) (e : σ₂ = σ'.un φ₀) (d : Dis σ' φ₀) (q : Q σ') : Framed φ₀ Q σ₂
/-- what a tree does not know of stays as it is -/
theorem W_frame {t : Sem α} {Q : α → Loc → Led → Prop} (φ₀ : Led) (h : W c t Q E m σ) (hd₀ : Dis σ φ₀) :
    W c t (fun a m' σ₂ => Framed φ₀ (Q a m') σ₂) (fun cls m' σ₂ => Framed φ₀ (E cls m') σ₂) m (σ.un φ₀) := fun φ s hd hA => by
  have hd₁ := Dis.un hd hd₀
  have dφ : ∀ {σ' : Led}, Dis σ' (φ₀.un φ) → Dis σ' φ₀ ∧ Dis (σ'.un φ₀) φ := fun {σ'} x => by
    refine ⟨fun a => (x a).imp id fun e => (Led.un_none e).1, fun a => ?_⟩
    rcases x a with e | e
    · cases q : φ₀ a with
      | none => left; rw [Led.un_right e]; exact q
      | some o =>
        right
        rcases hd a with r | r
        · rcases hd₀ a with z | z
          · rw [Led.un_right z, q] at r; cases r
          · rw [q] at z; cases z
        · exact r
    · exact .inr (Led.un_none e).2
  refine wpAny_mono (h (φ₀.un φ) s hd₁ (Led.un_assoc ▸ hA)) (fun a s' x => ?_) (fun a s' x => ?_)
  · obtain ⟨h', tk, m', σ', e, d, hA', q⟩ := x
    exact ⟨h', tk, m', σ'.un φ₀, e, (dφ d).2, Led.un_assoc ▸ hA', σ', rfl, (dφ d).1, q⟩
  · obtain ⟨h', tk, m', σ', cls, e, d, hA', hx, q⟩ := x
    exact ⟨h', tk, m', σ'.un φ₀, cls, e, (dφ d).2, Led.un_assoc ▸ hA', Led.un_assoc ▸ hx, σ', rfl, (dφ d).1, q⟩
end
theorem Led.set_self {σ : Led} {a : Addr} {o : AO} : σ.set a o a = some o := if_pos rfl
theorem Led.set_ne {σ : Led} {a b : Addr} {o : AO} (h : b ≠ a) : σ.set a o b = σ b := if_neg h
theorem Led.set_old {σ : Led} {a b : Addr} {o o' : AO} (h : σ b = some o') (hn : σ a = none) : σ.set a o b = some o' :=
  (Led.set_ne (fun e => by rw [e, hn] at h; cases h)).trans h
theorem NsE.keeps {h h' : Heap} {L : Addr} {m : Loc} (x : NsE h L m) (hk : ∀ o, h.get? L = some o → h'.get? L = some o) : NsE h' L m := by
  obtain ⟨m', ⟨o, es, ep, ho, r⟩, e⟩ := x
  exact ⟨m', ⟨o, es, ep, hk _ ho, r⟩, e⟩
theorem NsE.slots {h h' : Heap} {L : Addr} {m : Loc} (x : NsE h L m) (hk : ∀ o, h.get? L = some o → ∃ o', h'.get? L = some o' ∧ o'.data = o.data) : NsE h' L m := by
  obtain ⟨m', ⟨o, es, ep, ho, hd, r⟩, e⟩ := x
  obtain ⟨o', ho', hd'⟩ := hk _ ho
  exact ⟨m', ⟨o', es, ep, ho', hd'.trans hd, r⟩, e⟩
theorem NsE.lt {h : Heap} {L : Addr} {m : Loc} (x : NsE h L m) : L < h.objs.size := by obtain ⟨m', hn, _⟩ := x; exact hn.lt
section
variable {w : World} {B h h' : Heap} {fs : List (Addr × Loc)} {σ : Led}
theorem At.lt (x : At w B fs h σ) {a : Addr} {ao : AO} (e : σ a = some ao) : a < h.objs.size := by
  obtain ⟨o, ho, _⟩ := x.led a ao e; exact Heap.lt_size ho
theorem At.fresh (x : At w B fs h σ) {a : Addr} (ha : h.objs.size ≤ a) : σ a = none := by
  cases e : σ a with
  | none => rfl
  | some ao => exact absurd (x.lt e) (Nat.not_lt.mpr ha)
theorem At.freshF (x : At w B fs h σ) {a : Addr} (ha : h.objs.size ≤ a) : ∀ p ∈ fs, a ≠ p.1 := fun p hp e => absurd (x.frames p hp).lt (e ▸ Nat.not_lt.mpr ha)
theorem At.newB (x : At w B fs h σ) {a : Addr} (ha : h.objs.size ≤ a) : B.get? a = none := by
  cases e : B.get? a with
  | none => rfl
  | some o => exact absurd (Heap.lt_size (x.keep _ _ e)) (Nat.not_lt.mpr ha)
theorem At.keeps (x : At w B fs h σ) (hk : ∀ b o, h.get? b = some o → h'.get? b = some o) : At w B fs h' σ :=
  ⟨fun b o e => hk b o (x.keep b o e), fun p hp => (x.frames p hp).keeps (hk _), x.above, x.nodup, fun a ao e => let ⟨o, ho, k⟩ := x.led a ao e; ⟨o, hk _ _ ho, k⟩, x.new, x.apart⟩
theorem At.alloc {L : Addr} {m : Loc} {a : Addr} {o : Obj} {ao : AO} (x : At w B ((L, m) :: fs) h σ) (hk : ∀ b o, h.get? b = some o → h'.get? b = some o) (ho : h'.get? a = some o) (k : ao.ok w o)
    (ha : h.objs.size ≤ a) : At w B ((L, m) :: fs) h' (σ.set a ao) := by
  have y := x.keeps hk
  refine ⟨y.keep, y.frames, y.above, y.nodup, fun b bo e => ?_, fun b bo e => ?_, fun b bo e p hp => ?_⟩
  · by_cases q : b = a
    · subst q; rw [Led.set_self] at e; cases e; exact ⟨o, ho, k⟩
    · rw [Led.set_ne q] at e; exact y.led b bo e
  · by_cases q : b = a
    · subst q; exact x.newB ha
    · rw [Led.set_ne q] at e; exact y.new b bo e
  · by_cases q : b = a
    · subst q; exact x.freshF ha p hp
    · rw [Led.set_ne q] at e; exact y.apart b bo e p hp
theorem At.set {d : Addr} {o : Obj} {ao ao₀ : AO} (x : At w B fs h σ) (hd : σ d = some ao₀) (hs : Heap.SameBut d h h') (ho : h'.get? d = some o) (k : ao.ok w o) : At w B fs h' (σ.set d ao) := by
  refine ⟨fun b o e => ?_, fun p hp => (x.frames p hp).keeps fun o e => ?_, x.above, x.nodup, fun b bo e => ?_, fun b bo e => ?_, fun b bo e p hp => ?_⟩
  · refine (hs.2 b fun q => ?_).trans (x.keep b o e)
    subst q; rw [x.new _ _ hd] at e; cases e
  · exact (hs.2 _ fun q => x.apart _ _ hd p hp q.symm).trans e
  · by_cases q : b = d
    · subst q; rw [Led.set_self] at e; cases e; exact ⟨o, ho, k⟩
    · rw [Led.set_ne q] at e
      obtain ⟨o', ho', k'⟩ := x.led b bo e
      exact ⟨o', (hs.2 b q).trans ho', k'⟩
  · by_cases q : b = d
    · subst q; exact x.new _ _ hd
    · rw [Led.set_ne q] at e; exact x.new b bo e
  · by_cases q : b = d
    · subst q; exact x.apart _ _ hd p hp
    · rw [Led.set_ne q] at e; exact x.apart b bo e p hp
theorem At.store {L : Addr} {m m₁ : Loc} (x : At w B ((L, m) :: fs) h σ) (hs : Heap.SameBut L h h') (hn : NsE h' L m₁) : At w B ((L, m₁) :: fs) h' σ := by
  have nd := List.nodup_cons.mp x.nodup
  refine ⟨fun b o e => (hs.2 b fun q => ?_).trans (x.keep b o e), fun p hp => ?_, fun p hp => ?_, x.nodup, fun a ao e => ?_, x.new, fun a ao e p hp => ?_⟩
  · subst q; rw [show B.get? _ = none from x.above _ (.head _)] at e; cases e
  · rcases List.mem_cons.mp hp with rfl | hp
    · exact hn
    · refine (x.frames p (.tail _ hp)).keeps fun o e => (hs.2 _ fun q => ?_).trans e
      exact nd.1 (List.mem_map.mpr ⟨p, hp, q⟩)
  · rcases List.mem_cons.mp hp with rfl | hp
    · exact x.above (L, m) (.head _)
    · exact x.above p (.tail _ hp)
  · obtain ⟨o, ho, k⟩ := x.led a ao e
    exact ⟨o, (hs.2 a (x.apart a ao e _ (.head _))).trans ho, k⟩
  · rcases List.mem_cons.mp hp with rfl | hp
    · exact x.apart a ao e (L, m) (.head _)
    · exact x.apart a ao e p (.tail _ hp)
end
/-! rules of the statements and expressions -/
section
variable {c : Cx} {E : Value → Loc → Led → Prop} {m : Loc} {σ : Led} {env : Env}
theorem W_execs_nil {Q : Flow → Loc → Led → Prop} (h : Q .next m σ) : W c (execs [] env) Q E m σ := fun _ s hd hA => wpAny_execs_nil ⟨s.heap, s.toks, m, σ, rfl, hd, hA, h⟩
/-- what is asked of a statement that stands ahead of others -/
noncomputable def Behind (c : Cx) (env : Env) (rest : List Stmt) (Q : Flow → Loc → Led → Prop) (E : Value → Loc → Led → Prop) (f : Flow) (m : Loc) (σ : Led) : Prop :=
  match f with
  | .next => W c (execs rest env) Q E m σ
  | f => Q f m σ
theorem W_execs_cons {st : Stmt} {rest : List Stmt} {Q : Flow → Loc → Led → Prop} (h : W c (exec st env) (Behind c env rest Q E) E m σ) : W c (execs (st :: rest) env) Q E m σ :=
  fun φ s hd hA => wpAny_execs_cons (wpAny_mono (h φ s hd hA) (fun f s₁ x => by
    cases f <;> first | exact W_then (f := fun _ : Flow => execs rest env) (a := Flow.next) x | exact x) fun _ _ y => y)
theorem W_loadLocal {x : Str} {av : AV} {Q : Value → Loc → Led → Prop} (hL : env.locals = c.L) (hv : m x = some av) (h : ∀ v, er v = av → Q v m σ)
    (hk : env.scope.kind = .function := by rfl) (hl : env.kindOf x = some .local := by rfl) : W c (loadName env x) Q E m σ := fun _ s hd hA => by
  obtain ⟨m', hn, he⟩ := hA.frames _ (.head _)
  have q : (m' x).map er = m x := he x
  rw [hv] at q
  cases hm : m' x with
  | none => rw [hm] at q; cases q
  | some v =>
    rw [hm] at q
    exact wpAny_loadName_local hk hl (hL ▸ hn) hm ⟨s.heap, s.toks, m, σ, rfl, hd, hA, h v (Option.some.inj q)⟩
theorem W_name {x : Str} {pos : Pos} {Q : Value → Loc → Led → Prop} (h : W c (loadName env x) Q E m σ) (hd : (x == ("__debug__" : Str)) = false := by decide) : W c (eval (.Name x pos) env) Q E m σ :=
  fun φ s hd' hA => wpAny_Name (h φ s hd' hA) hd
theorem W_storeLocal {x : Str} {v : Value} {Q : Unit → Loc → Led → Prop} (hL : env.locals = c.L) (h : Q () (m.set x (er v)) σ)
    (hk : env.scope.kind = .function := by rfl) (hl : env.kindOf x = some .local := by rfl) : W c (storeName env x v) Q E m σ := fun φ s hd hA => by
  obtain ⟨m', hn, he⟩ := hA.frames _ (.head _)
  refine wpAny_storeName_local hl (hL ▸ hn) (fun h' hn' hs => ⟨h', _, m.set x (er v), σ, rfl, hd, hA.store (hL ▸ hs) ⟨_, hL ▸ hn', fun y => ?_⟩, h⟩) (by rw [hk]; rfl)
  unfold Loc.set
  by_cases q : y = x
  · simp [q]
  · simp only [if_neg q]; exact he y
theorem W_assignName {x : Str} {pos : Pos} {v : Value} {Q : Unit → Loc → Led → Prop} (h : W c (storeName env x v) Q E m σ) : W c (assign (.Name x pos) env v) Q E m σ := fun φ s hd hA => wpAny_assign_Name (h φ s hd hA)
theorem W_two {α β γ : Type} {φ : Led} {s : Shared} {t : Sem α} {u : α → Sem β} {f : α → β → Sem γ} {Q : γ → Loc → Led → Prop} (hd : Dis σ φ) (hA : At c.w c.B ((c.L, m) :: c.fs) s.heap (σ.un φ))
    (h : W c t (fun a m σ => W c (u a) (fun b m σ => W c (f a b) Q E m σ) E m σ) E m σ) :
    wpAny (model c.prog c.w) c.A t (fun a s₁ => wpAny (model c.prog c.w) c.A (u a) (fun b s₂ => wpAny (model c.prog c.w) c.A (f a b) (PQ c φ s Q) (PE c φ s E) s₂) (PE c φ s E) s₁) (PE c φ s E) s :=
  wpAny_mono (h φ s hd hA) (fun a s₁ x => by
      obtain ⟨h', tk', m', σ', rfl, hd', hA', hq⟩ := x
      exact wpAny_mono (W_chain (hq φ _ hd' hA')) (fun _ _ y => wpAny_mono y (fun _ _ z => z.re) fun _ _ z => z.re) fun _ _ y => y.re) fun _ _ y => y
theorem W_Assign_Name {x : Str} {pos' pos : Pos} {value : Expr} {Q : Flow → Loc → Led → Prop} (h : W c (eval value env) (fun v m σ => W c (storeName env x v) (fun _ => Q .next) E m σ) E m σ)
    (hs : swapsWith value (some (.Name x pos')) pos.line env = pure false := by rfl) : W c (exec (.Assign [.Name x pos'] value pos) env) Q E m σ :=
  fun φ s hd hA => wpAny_Assign_Name (W_chain (h φ s hd hA)) hs
theorem W_If {test : Expr} {body orelse : List Stmt} {pos : Pos} {Q : Flow → Loc → Led → Prop} (h : W c (isTrue test env (eval test env)) (fun b m σ => W c (execs (if b then body else orelse) env) Q E m σ) E m σ) :
    W c (exec (.If test body orelse pos) env) Q E m σ := fun φ s hd hA => wpAny_If (wpAny_mono (h φ s hd hA) (fun b s₁ x => by
      have := W_then (f := fun b : Bool => execs (if b then body else orelse) env) x
      cases b <;> exact this) fun _ _ y => y)
theorem W_Return {e : Expr} {pos : Pos} {Q : Flow → Loc → Led → Prop} (h : W c (eval e env) (fun v => Q (.ret v)) E m σ) : W c (exec (.Return (some e) pos) env) Q E m σ := fun φ s hd hA => wpAny_Return_some (h φ s hd hA)
theorem W_BinOp {l r : Expr} {op : Operator} {pos : Pos} {Q : Value → Loc → Led → Prop} (h : W c (eval l env) (fun a m σ => W c (eval r env) (fun b m σ => W c (binaryOp op a b) Q E m σ) E m σ) E m σ) :
    W c (eval (.BinOp l op r pos) env) Q E m σ := fun _ _ hd hA => wpAny_BinOp (W_two hd hA h)
theorem W_Compare {l r : Expr} {op : CmpOp} {pos : Pos} {Q : Value → Loc → Led → Prop} (h : W c (eval l env) (fun a m σ => W c (eval r env) (fun b m σ => W c (compareOp op a b) Q E m σ) E m σ) E m σ)
    (hm : behindInMarks op r = false := by with_unfolding_all rfl) :
    W c (eval (.Compare l [op] [r] pos) env) Q E m σ := fun _ _ hd hA => wpAny_Compare1 (W_two hd hA h) hm
theorem W_isTrue_Compare {l r : Expr} {op : CmpOp} {pos : Pos} {whole : Sem Value} {Q : Bool → Loc → Led → Prop} (h : W c (eval (.Compare l [op] [r] pos) env) (fun v m σ => W c (truthy v) Q E m σ) E m σ) :
    W c (isTrue (.Compare l [op] [r] pos) env whole) Q E m σ := fun φ s hd hA => by
  have e : isTrue (.Compare l [op] [r] pos) env whole = (do let a ← eval l env; let b ← holding [a] (markedBehindIn op r (eval r env)); standAt pos; let c ← operate [a, b] (compareOp op a b); holding [c] (truthy c)) := isTrue_Compare1 env l op r pos whole
  have e' : isTrue (.Compare l [op] [r] pos) env whole = (eval (.Compare l [op] [r] pos) env >>= fun c => holding [c] (truthy c)) := by
    rw [e, eval_Compare1]; simp only [bind_assoc]
  rw [e']
  exact wpAny_bind (wpAny_mono (W_chain (h φ s hd hA)) (fun _ _ y => wpAny_holding y) fun _ _ y => y)
theorem W_constInt {i : Int} {k : Nat} {pos : Pos} {Q : Value → Loc → Led → Prop} (h : ∀ t, Q (.int i t) m σ) : W c (eval (.Constant (.int i) k pos) env) Q E m σ :=
  fun _ s hd hA => wpAny_Constant_int ⟨s.heap, _, m, σ, rfl, hd, hA, h _⟩
theorem W_constStr {i : Str} {k : Nat} {pos : Pos} {Q : Value → Loc → Led → Prop} (h : ∀ t, Q (.str i t) m σ) : W c (eval (.Constant (.str i) k pos) env) Q E m σ :=
  fun _ s hd hA => wpAny_Constant_str ⟨s.heap, _, m, σ, rfl, hd, hA, h _⟩
theorem W_constNone {k : Nat} {pos : Pos} {Q : Value → Loc → Led → Prop} (h : Q .none m σ) : W c (eval (.Constant .none k pos) env) Q E m σ := fun _ s hd hA => wpAny_Constant_none ⟨s.heap, s.toks, m, σ, rfl, hd, hA, h⟩
theorem W_constBool {b : Bool} {k : Nat} {pos : Pos} {Q : Value → Loc → Led → Prop} (h : Q (.bool b) m σ) : W c (eval (.Constant (.bool b) k pos) env) Q E m σ := fun _ s hd hA => wpAny_Constant_bool ⟨s.heap, s.toks, m, σ, rfl, hd, hA, h⟩
theorem W_truthyBool {b : Bool} {Q : Bool → Loc → Led → Prop} (h : Q b m σ) : W c (truthy (.bool b)) Q E m σ := fun _ s hd hA => wpAny_truthy_bool ⟨s.heap, s.toks, m, σ, rfl, hd, hA, h⟩
/-- a new object onto the ledger -/
theorem PQ.new {α : Type} {φ : Led} {s : Shared} {h' : Heap} {tk : Nat} {a : Addr} {o : Obj} {ao : AO} {x : α} {Q : α → Loc → Led → Prop} (hd : Dis σ φ) (hA : At c.w c.B ((c.L, m) :: c.fs) s.heap (σ.un φ))
    (hk : ∀ b o, s.heap.get? b = some o → h'.get? b = some o) (ho : h'.get? a = some o) (k : ao.ok c.w o) (ha : s.heap.objs.size ≤ a) (h : σ a = none → Q x m (σ.set a ao)) : PQ c φ s Q x { s with heap := h', toks := tk } := by
  have e := Led.un_none (hA.fresh ha)
  exact ⟨h', tk, m, σ.set a ao, rfl, hd.set e.2, Led.un_set ▸ hA.alloc hk ho k ha, h e.1⟩
/-- an object of the ledger changed -/
theorem PQ.upd {α : Type} {φ : Led} {s : Shared} {h' : Heap} {tk : Nat} {a : Addr} {o : Obj} {ao ao₀ : AO} {x : α} {Q : α → Loc → Led → Prop} (hd : Dis σ φ) (hA : At c.w c.B ((c.L, m) :: c.fs) s.heap (σ.un φ))
    (h0 : σ a = some ao₀) (hs : Heap.SameBut a s.heap h') (ho : h'.get? a = some o) (k : ao.ok c.w o) (h : Q x m (σ.set a ao)) : PQ c φ s Q x { s with heap := h', toks := tk } := by
  have e : φ a = none := (hd a).resolve_left (by rw [h0]; intro q; cases q)
  exact ⟨h', tk, m, σ.set a ao, rfl, hd.set e, Led.un_set ▸ hA.set (Led.un_left h0) hs ho k, h⟩
theorem PQ.more {α : Type} {φ : Led} {s : Shared} {h' : Heap} {tk : Nat} {x : α} {Q : α → Loc → Led → Prop} (hd : Dis σ φ) (hA : At c.w c.B ((c.L, m) :: c.fs) s.heap (σ.un φ))
    (hk : ∀ b o, s.heap.get? b = some o → h'.get? b = some o) (h : Q x m σ) : PQ c φ s Q x { s with heap := h', toks := tk } := ⟨h', tk, m, σ, rfl, hd, hA.keeps hk, h⟩
theorem W_newList {vs : List Value} {Q : Value → Loc → Led → Prop} (h : ∀ a, σ a = none → Q (.ref a) m (σ.set a (.list (vs.map er)))) (hsz : vs.length ≤ sizeLine := by size_fits) : W c (newList vs) Q E m σ := fun _ s hd hA => by
  refine wpAny_newObj_type (T := "list") (PQ.new (a := s.heap.objs.size) hd hA (fun b o e => Heap.get?_push_of_some _ e) (Heap.get?_push_size _ rfl) ?_ (Nat.le_refl _) (h _)) (by show vs.toArray.size ≤ sizeLine; rw [List.size_toArray]; exact hsz)
  exact ⟨vs, 0, rfl, rfl⟩
theorem W_newTuple {vs : List Value} {Q : Value → Loc → Led → Prop} (h : ∀ a, σ a = none → Q (.ref a) m (σ.set a (.tuple (vs.map er)))) (hsz : vs.length ≤ sizeLine := by size_fits) : W c (newTuple vs) Q E m σ := fun _ s hd hA => by
  refine wpAny_newObj_type (T := "tuple") (PQ.new (a := s.heap.objs.size) hd hA (fun b o e => Heap.get?_push_of_some _ e) (Heap.get?_push_size _ rfl) ?_ (Nat.le_refl _) (h _)) (by show vs.toArray.size ≤ sizeLine; rw [List.size_toArray]; exact hsz)
  exact ⟨vs, 0, rfl, rfl⟩
theorem W_items_nil {pos : Pos} {Q : List Value → Loc → Led → Prop} (h : Q [] m σ) : W c (spliced (backTo pos (starEach [] env))) Q E m σ := fun _ s hd hA => wpAny_items_nil ⟨s.heap, s.toks, m, σ, rfl, hd, hA, h⟩
theorem W_items_cons {pos : Pos} {e : Expr} {rest : List Expr} {Q : List Value → Loc → Led → Prop} (h : W c (eval e env) (fun v m σ => W c (spliced (backTo pos (starEach rest env))) (fun vs => Q (v :: vs)) E m σ) E m σ)
    (he : starEach (e :: rest) env = (false, eval e env) :: starEach rest env := by rfl) : W c (spliced (backTo pos (starEach (e :: rest) env))) Q E m σ :=
  fun φ s hd hA => wpAny_items_cons (wpAny_mono (h φ s hd hA) (fun v s₁ x => by
    obtain ⟨h', tk', m', σ', rfl, hd', hA', hq⟩ := x
    exact wpAny_mono (hq φ _ hd' hA') (fun _ _ y => PQ.re y) fun _ _ y => y.re) fun _ _ y => y) he
theorem W_List {elts : List Expr} {pos : Pos} {Q : Value → Loc → Led → Prop} (h : W c (spliced (backTo pos (starEach elts env))) (fun vs m σ => W c (newList vs) Q E m σ) E m σ) : W c (eval (.List elts pos) env) Q E m σ :=
  fun φ s hd hA => List_ (W_chain (h φ s hd hA))
theorem W_Tuple {elts : List Expr} {k : Nat} {pos : Pos} {Q : Value → Loc → Led → Prop} (h : W c (spliced (backTo pos (starEach elts env))) (fun vs m σ => W c (newTuple vs) Q E m σ) E m σ) : W c (eval (.Tuple elts k pos) env) Q E m σ :=
  fun φ s hd hA => Tuple_ (W_chain (h φ s hd hA))
theorem W_Expr {e : Expr} {pos : Pos} {Q : Flow → Loc → Led → Prop} (h : W c (eval e env) (fun _ => Q .next) E m σ) (hi : interactive env = false := by rfl) (hs : swapsWith e none pos.line env = pure false := by rfl) : W c (exec (.Expr e pos) env) Q E m σ :=
  fun φ s hd hA => wpAny_Expr_any (wpAny_mono (h φ s hd hA) (fun _ _ x => x) fun _ _ x => x) hi hs
end
end Mine
end
section
namespace Mine
theorem At.slots {w : World} {B h h' : Heap} {fs : List (Addr × Loc)} {σ : Led} {S : List Addr} (x : At w B fs h σ) (hs : Heap.SlotsOnly S h h') (hS : ∀ b ∈ S, ∃ p ∈ fs, b = p.1) : At w B fs h' σ := by
  refine ⟨fun b o e => (hs.2.1 b fun q => ?_).trans (x.keep b o e), fun p hp => (x.frames p hp).slots fun o e => ?_, x.above, x.nodup, fun a ao e => ?_, x.new, x.apart⟩
  · obtain ⟨p, hp, rfl⟩ := hS b q
    rw [x.above p hp] at e; cases e
  · obtain ⟨sl, e'⟩ := hs.2.2 _ o e
    exact ⟨_, e', rfl⟩
  · obtain ⟨o, ho, k⟩ := x.led a ao e
    refine ⟨o, (hs.2.1 a fun q => ?_).trans ho, k⟩
    obtain ⟨p, hp, q'⟩ := hS a q
    exact x.apart a ao e p hp q'
/-- a change outside of all that is told -/
theorem At.off {w : World} {B h h' : Heap} {fs : List (Addr × Loc)} {σ : Led} {d : Addr} (x : At w B fs h σ) (hs : Heap.SameBut d h h') (h1 : B.get? d = none) (h2 : σ d = none) (h3 : ∀ p ∈ fs, d ≠ p.1) : At w B fs h' σ := by
  refine ⟨fun b o e => (hs.2 b fun q => ?_).trans (x.keep b o e), fun p hp => (x.frames p hp).keeps fun o e => (hs.2 _ fun q => h3 p hp q.symm).trans e, x.above, x.nodup, fun a ao e => ?_, x.new, x.apart⟩
  · subst q; rw [h1] at e; cases e
  · obtain ⟨o, ho, k⟩ := x.led a ao e
    refine ⟨o, (hs.2 a fun q => ?_).trans ho, k⟩
    subst q; rw [h2] at e; cases e
/-- the frames on the stack are those that are told -/
structure Okay (c : Cx) : Prop where
  stack : ∃ env outer, c.A.frames = some (env :: outer) ∧ env.frame = some c.f ∧ ∀ e ∈ env :: outer, e.scope.kind ≠ .module ∧ ∃ L, e.frame = some L ∧ (L = c.L ∨ L ∈ c.fs.map (·.1))
theorem funFrames_of {w : World} {B h : Heap} {fs : List (Addr × Loc)} {σ : Led} (x : At w B fs h σ) : ∀ {l : List Env}, (∀ e ∈ l, e.scope.kind ≠ .module ∧ ∃ L, e.frame = some L ∧ L ∈ fs.map (·.1)) → h.FunFrames B l
  | [], _ => trivial
  | e :: l, hl => by
    obtain ⟨hk, L, hf, hL⟩ := hl e (.head _)
    obtain ⟨p, hp, rfl⟩ := List.mem_map.mp hL
    obtain ⟨m', ⟨o, es, ep, ho, hd, _⟩, _⟩ := x.frames p hp
    exact ⟨hk, ⟨p.1, o, hf, x.above p hp, ho, fun vs q => by rw [hd] at q; cases q⟩, funFrames_of x fun e' he' => hl e' (.tail _ he')⟩
/-- an exception object with a traceback that bears the mark mk -/
noncomputable def ExcTr (B : Heap) (fs : List (Addr × Loc)) (h : Heap) (σ : Led) (e : Value) (cls mk : Value) : Prop :=
  ∃ a o vs T oT ts, e = .ref a ∧ h.get? a = some o ∧ o.cls = cls ∧ o.data = .fields vs ∧ σ a = none ∧ B.get? a = none ∧ (∀ p ∈ fs, a ≠ p.1) ∧
    vs[1]? = some (.ref T) ∧ T ≠ a ∧ h.get? T = some oT ∧ oT.data = .fields ts ∧ σ T = none ∧ B.get? T = none ∧ (∀ p ∈ fs, T ≠ p.1) ∧ ts[3]? = some mk ∧ vs[2]? = some .none
theorem ExcTr.exc {B : Heap} {fs : List (Addr × Loc)} {h : Heap} {σ : Led} {e cls mk : Value} {f : Addr} (x : ExcTr B fs h σ e cls mk) (hm : mk = .none ∨ mk = rawInt f) : ExcIn B fs f h σ e cls := by
  obtain ⟨a, o, vs, T, oT, ts, h1, h2, h3, h4, h5, h6, h7, h8, h9, h10, h11, h12, h13, h14, h15, h16⟩ := x
  exact ⟨a, o, vs, h1, h2, h3, h4, h5, h6, h7, .inr ⟨T, oT, ts, mk, h8, h9, h10, h11, h12, h13, h14, h15, hm⟩, h16⟩
section
variable {M : Model} {A : Around} {w : World} {B : Heap} {fs : List (Addr × Loc)} {σ : Led} {s : Shared}
theorem setFlight_tr {e cls mk : Value} {fl : Option Addr} {Q : Unit → Shared → Prop} {E : Value → Shared → Prop} (hA : At w B fs s.heap σ) (x : ExcTr B fs s.heap σ e cls mk)
    (h : ∀ h', At w B fs h' σ → ExcTr B fs h' σ e cls (fl.elim .none fun f => rawInt f) → Q () { s with heap := h' }) : wpAny M A (setFlight e fl) Q E s := by
  obtain ⟨a, o, vs, T, oT, ts, rfl, h2, h3, h4, h5, h6, h7, h8, h9, h10, h11, h12, h13, h14, h15, h16⟩ := x
  unfold setFlight
  refine wpAny_bind (wpAny_field h2 h4 h8 ?_)
  rw [if_pos (show (Value.ref T != Value.none) = true from by simp)]
  have hsz : 3 < ts.size := (Array.getElem?_eq_some_iff.mp h15).1
  refine wpAny_setField h10 h11 hsz (h _ (hA.off (Heap.SameBut.update ..) h13 h12 h14) ?_)
  refine ⟨a, o, vs, T, _, _, rfl, (Heap.get?_update_other _ _ h9).trans h2, h3, h4, h5, h6, h7, h8, h9, Heap.get?_update_self _ h10 (Obj.isFreed_of_fields (Obj.data_mapFields h11 _)), Obj.data_mapFields h11 _, h12, h13, h14, ?_, h16⟩
  simp [hsz]
theorem noteFrame_at {c : Cx} {m : Loc} {env : Env} {e cls : Value} {Q : Unit → Shared → Prop} {E : Value → Shared → Prop} (ok : Okay c) (hf : env.frame = some c.f) (hA : At c.w c.B ((c.L, m) :: c.fs) s.heap σ)
    (x : ExcIn c.B ((c.L, m) :: c.fs) c.f s.heap σ e cls) (h : ∀ h', At c.w c.B ((c.L, m) :: c.fs) h' σ → ExcTr c.B ((c.L, m) :: c.fs) h' σ e cls (rawInt c.f) → Q () { s with heap := h' }) :
    wpAny M c.A (noteFrame e env) Q E s := by
  obtain ⟨env', outer, hfr, hf', hall⟩ := ok.stack
  have hall' : ∀ e ∈ env' :: outer, e.scope.kind ≠ .module ∧ ∃ L, e.frame = some L ∧ L ∈ (((c.L, m) :: c.fs).map (·.1)) := fun e he => by
    obtain ⟨h1, L, h2, h3⟩ := hall e he
    exact ⟨h1, L, h2, by rcases h3 with rfl | h3; exact .head _; exact .tail _ h3⟩
  have hS : ∀ b ∈ (env' :: outer).filterMap (·.frame), ∃ p ∈ ((c.L, m) :: c.fs), b = p.1 := fun b hb => by
    obtain ⟨e, he, hb⟩ := List.mem_filterMap.mp hb
    obtain ⟨_, L, h2, h3⟩ := hall' e he
    rw [h2] at hb; cases hb
    obtain ⟨p, hp, q⟩ := List.mem_map.mp h3
    exact ⟨p, hp, q.symm⟩
  obtain ⟨a, o, vs, rfl, h2, h3, h4, h5, h6, h7, hcase, h16⟩ := x
  -- the new entry
  have entry : ∀ (s : Shared) (o : Obj) (vs : Array Value) (head : Value) (hadNext : Bool), At c.w c.B ((c.L, m) :: c.fs) s.heap σ → s.heap.get? a = some o → o.cls = cls → o.data = .fields vs → 1 < vs.size → vs[2]? = some .none →
      (∀ h', At c.w c.B ((c.L, m) :: c.fs) h' σ → ExcTr c.B ((c.L, m) :: c.fs) h' σ (.ref a) cls (rawInt c.f) → Q () { s with heap := h' }) →
      wpAny M c.A (do let fr ← PySem.frameOf env; let pl ← entryPlaceOf c.f hadNext; let b ← EntryCells.newEntry head fr .none (rawInt c.f) .none pl; setField (.ref a) 1 b) Q E s := by
    intro s o vs head hadNext hA h2 h3 h4 hsz h16 h
    refine wpAny_bind ?_
    unfold PySem.frameOf
    refine wpAny_bind (wpAny_frameEnvs hfr ?_)
    have hdw : ((env' :: outer).dropWhile fun x => x.frame != env.frame) = env' :: outer := by simp [List.dropWhile, hf, hf']
    rw [hdw]
    unfold frameObject
    refine wpAny_bind (wpAny_bind (wpAny_readyFrames_fun (funFrames_of hA hall') fun h₁ hs₁ => wpAny_pure ?_))
    rw [hf']
    refine wpAny_pure ?_
    refine wpAny_bind (wpAny_entryPlaceOf fun pl hpl => ?_)
    unfold EntryCells.newEntry newFields
    refine wpAny_bind (wpAny_newObj_type ?_ (hpl.sizeOk5 _ _ _ _ _))
    have hA₁ := hA.slots hs₁ hS
    have ha₁ : h₁.get? a = some o := (hs₁.2.1 a fun q => by obtain ⟨p, hp, e⟩ := hS a q; exact h7 p hp e).trans h2
    generalize hT : ({ cls := .type "traceback", dict := none, data := .fields ([head, .ref c.f, .none, rawInt c.f, .none] ++ (if pl.isEmpty then List.replicate 6 Value.none else pl)).toArray } : Obj) = oT
    have hTd : oT.data = .fields ([head, .ref c.f, .none, rawInt c.f, .none] ++ (if pl.isEmpty then List.replicate 6 Value.none else pl)).toArray := by rw [← hT]
    have hTf : oT.isFreed = false := Obj.isFreed_of_fields hTd
    have ha₂ : (h₁.push oT).get? a = some o := Heap.get?_push_of_some _ ha₁
    have hTa : h₁.objs.size ≠ a := Nat.ne_of_gt (Heap.lt_size ha₁)
    refine wpAny_setField ha₂ h4 hsz (h _ ?_ ?_)
    · exact (hA₁.keeps fun b o e => Heap.get?_push_of_some _ e).off (Heap.SameBut.update ..) h6 h5 h7
    · refine ⟨a, _, _, h₁.objs.size, oT, _, rfl, Heap.get?_update_self _ ha₂ (Obj.isFreed_of_fields (Obj.data_mapFields h4 _)), (Obj.cls_mapFields ..).trans h3, Obj.data_mapFields h4 _, h5, h6, h7, by simp [hsz], hTa,
        (Heap.get?_update_other _ _ (Ne.symm hTa)).trans (Heap.get?_push_size _ hTf), hTd, hA₁.fresh (Nat.le_refl _), hA₁.newB (Nat.le_refl _), hA₁.freshF (Nat.le_refl _), by simp, by rw [Array.getElem?_setIfInBounds_ne (by decide)]; exact h16⟩
  unfold noteFrame
  simp only [hf]
  rcases hcase with h1 | ⟨T, oT, ts, mk, t1, t2, t3, t4, t5, t6, t7, t8, hmk⟩
  · refine wpAny_bind (wpAny_field h2 h4 h1 ?_)
    rw [if_neg (by decide)]
    exact entry s o vs .none _ hA h2 h3 h4 (Array.getElem?_eq_some_iff.mp h1).1 h16 h
  · refine wpAny_bind (wpAny_field h2 h4 t1 ?_)
    rw [if_pos (show (Value.ref T != Value.none) = true from by simp)]
    refine wpAny_bind (wpAny_field t3 t4 t8 ?_)
    rcases hmk with rfl | rfl
    · rw [if_neg (show ¬ ((Value.none == rawInt c.f) = true) from by simp [rawInt])]
      refine wpAny_bind (wpAny_setField t3 t4 (Array.getElem?_eq_some_iff.mp t8).1 ?_)
      have hA₁ := hA.off (h' := s.heap.update T (Obj.mapFields (·.setIfInBounds 3 Value.none))) (Heap.SameBut.update ..) t6 t5 t7
      exact entry _ o vs _ _ hA₁ ((Heap.get?_update_other _ _ t2).trans h2) h3 h4 (Array.getElem?_eq_some_iff.mp t1).1 h16 h
    · rw [if_pos (by first | (simp; done) | exact beq_self_eq_true _)]
      exact wpAny_pure (h _ hA ⟨a, o, vs, T, oT, ts, rfl, h2, h3, h4, h5, h6, h7, t1, t2, t3, t4, t5, t6, t7, t8, h16⟩)
end
theorem passes {c : Cx} {φ : Led} {s : Shared} {E : Value → Loc → Led → Prop} {env : Env} (ok : Okay c) (hf : env.frame = some c.f) : PassesOwn (model c.prog c.w) c.A env (PE c φ s E) := by
  rintro e s' ⟨h', tk, m', σ', cls, rfl, hd, hA, hx, hE⟩
  unfold notedBy
  refine noteFrame_at ok hf hA hx fun h₁ hA₁ hx₁ => ?_
  unfold cameBackBy
  obtain ⟨a, o, vs, T, oT, ts, rfl, h2, h3, h4, h5, h6, h7, h8, h9, h10, h11, h12, h13, h14, h15, h16⟩ := id hx₁
  refine wpAny_bind (wpAny_field h2 h4 h8 ?_)
  rw [if_neg (by simp)]
  refine setFlight_tr hA₁ hx₁ fun h₂ hA₂ hx₂ => ?_
  refine ⟨h₂, tk, m', σ', cls, rfl, hd, hA₂, hx₂.exc (.inr ?_), hE⟩
  rw [hf]; rfl
end Mine
end
section
namespace Mine
noncomputable def Led.one (I : Addr) (o : AO) : Led := fun b => if b = I then some o else none
theorem Led.un_one {τ : Led} {I : Addr} {o : AO} (h : τ I = none) : τ.un (Led.one I o) = τ.set I o := by
  funext b; unfold Led.un Led.one Led.set
  by_cases q : b = I
  · subst q; simp [h]
  · simp only [if_neg q]; cases τ b <;> rfl
theorem Dis.one {τ : Led} {I : Addr} {o : AO} (h : τ I = none) : Dis τ (Led.one I o) := fun b => by
  by_cases q : b = I
  · subst q; exact .inl h
  · exact .inr (if_neg q)
theorem Led.set_set {σ : Led} {a : Addr} {o o' : AO} : (σ.set a o).set a o' = σ.set a o' := by
  funext b; unfold Led.set; by_cases q : b = a <;> simp [q]
theorem Led.set_comm {σ : Led} {a b : Addr} {o o' : AO} (h : a ≠ b) : (σ.set a o).set b o' = (σ.set b o').set a o := by
  funext d; unfold Led.set
  by_cases q : d = a
  · subst q; simp [h]
  · by_cases r : d = b
    · subst r; simp [q]
    · simp [q, r]
theorem At.sub {w : World} {B h : Heap} {fs : List (Addr × Loc)} {σ σ' : Led} (x : At w B fs h σ) (hs : ∀ a o, σ' a = some o → σ a = some o) : At w B fs h σ' :=
  ⟨x.keep, x.frames, x.above, x.nodup, fun a ao e => x.led a ao (hs _ _ e), fun a ao e => x.new a ao (hs _ _ e), fun a ao e => x.apart a ao (hs _ _ e)⟩
theorem At.offExt {w : World} {B h h' : Heap} {fs : List (Addr × Loc)} {σ : Led} {d : Addr} (x : At w B fs h σ) (hs : Heap.ExtBut d h h') (h1 : B.get? d = none) (h2 : σ d = none) (h3 : ∀ p ∈ fs, d ≠ p.1) : At w B fs h' σ := by
  refine ⟨fun b o e => hs b o (fun q => ?_) (x.keep b o e), fun p hp => (x.frames p hp).keeps fun o e => hs _ o (fun q => h3 p hp q.symm) e, x.above, x.nodup, fun a ao e => ?_, x.new, x.apart⟩
  · subst q; rw [h1] at e; cases e
  · obtain ⟨o, ho, k⟩ := x.led a ao e
    refine ⟨o, hs a o (fun q => ?_) ho, k⟩
    subst q; rw [h2] at e; cases e
theorem ExcIn.sub {B h : Heap} {fs : List (Addr × Loc)} {f : Addr} {σ σ' : Led} {e cls : Value} (x : ExcIn B fs f h σ e cls) (hs : ∀ a o, σ' a = some o → σ a = some o) : ExcIn B fs f h σ' e cls := by
  have nn : ∀ {a}, σ a = none → σ' a = none := fun {a} e => by
    cases q : σ' a with
    | none => rfl
    | some o => rw [hs _ _ q] at e; cases e
  obtain ⟨a, o, vs, h1, h2, h3, h4, h5, h6, h7, hc, h16⟩ := x
  refine ⟨a, o, vs, h1, h2, h3, h4, nn h5, h6, h7, hc.imp id ?_, h16⟩
  rintro ⟨T, oT, ts, mk, t1, t2, t3, t4, t5, t6, t7, t8, t9⟩
  exact ⟨T, oT, ts, mk, t1, t2, t3, t4, nn t5, t6, t7, t8, t9⟩
/-- the ledger's part that a frame held is let go -/
theorem PE.drop {c : Cx} {φ φ₀ : Led} {s : Shared} {E : Value → Loc → Led → Prop} {e : Value} {s' : Shared} (x : PE c φ s (fun cls m' σ₂ => Framed φ₀ (E cls m') σ₂) e s') : PE c φ s E e s' := by
  obtain ⟨h', tk, m', σ', cls, rfl, hd, hA, hx, σ'', rfl, hd', hE⟩ := x
  have sub : ∀ a o, σ''.un φ a = some o → (σ''.un φ₀).un φ a = some o := fun a o e => by
    cases q : σ'' a with
    | some o' => rw [Led.un_left q] at e; exact Led.un_left (Led.un_left q) |>.trans e
    | none =>
      rw [Led.un_right q] at e
      rcases hd a with r | r
      · rw [Led.un_right r]; exact e
      · rw [r] at e; cases e
  exact ⟨h', tk, m', σ'', cls, rfl, fun a => (hd a).imp (fun e => (Led.un_none e).1) id, hA.sub sub, hx.sub sub, hE⟩
theorem W_mono_ne {α : Type} {c : Cx} {t : Sem α} {Q Q' : α → Loc → Led → Prop} {E : Value → Loc → Led → Prop} {m : Loc} {σ : Led} (h : W c t Q E m σ) (hQ : ∀ a m σ, Q a m σ → Q' a m σ) : W c t Q' E m σ := W_mono h hQ fun _ _ _ x => x
/-- the frame rule, the raise by the caller's own word -/
theorem W_frameE {α : Type} {c : Cx} {t : Sem α} {Q : α → Loc → Led → Prop} {E : Value → Loc → Led → Prop} {m : Loc} {σ : Led} (φ₀ : Led) (h : W c t Q E m σ) (hd₀ : Dis σ φ₀) :
    W c t (fun a m' σ₂ => Framed φ₀ (Q a m') σ₂) E m (σ.un φ₀) := fun φ s hd hA =>
  wpAny_mono (W_frame φ₀ h hd₀ φ s hd hA) (fun _ _ x => x) fun _ _ x => x.drop
/-- things of the ledger may be let go -/
theorem W_weaken {α : Type} {c : Cx} {t : Sem α} {Q Q' : α → Loc → Led → Prop} {E E' : Value → Loc → Led → Prop} {m : Loc} {σ : Led} (h : W c t Q' E' m σ) (hQ : ∀ a m σ', Q' a m σ' → ∃ σ'', (∀ b o, σ'' b = some o → σ' b = some o) ∧ Q a m σ'')
    (hE : ∀ a m σ', E' a m σ' → ∃ σ'', (∀ b o, σ'' b = some o → σ' b = some o) ∧ E a m σ'') : W c t Q E m σ := fun φ s hd hA => by
  have un : ∀ {σ' σ'' : Led}, Dis σ' φ → (∀ b o, σ'' b = some o → σ' b = some o) → (∀ b o, σ''.un φ b = some o → σ'.un φ b = some o) ∧ Dis σ'' φ := fun {σ' σ''} hd hs => by
    refine ⟨fun b o e => ?_, fun b => ?_⟩
    · cases q : σ'' b with
      | some o' => rw [Led.un_left q] at e; exact (Led.un_left (hs _ _ q)).trans e
      | none =>
        rw [Led.un_right q] at e
        rcases hd b with r | r
        · rw [Led.un_right r]; exact e
        · rw [r] at e; cases e
    · rcases hd b with r | r
      · left
        cases q : σ'' b with
        | none => rfl
        | some o => rw [hs _ _ q] at r; cases r
      · exact .inr r
  refine wpAny_mono (h φ s hd hA) (fun a s' x => ?_) fun e s' x => ?_
  · obtain ⟨h', tk, m', σ', rfl, hd', hA', hq⟩ := x
    obtain ⟨σ'', hs, hq⟩ := hQ _ _ _ hq
    exact ⟨h', tk, m', σ'', rfl, (un hd' hs).2, hA'.sub (un hd' hs).1, hq⟩
  · obtain ⟨h', tk, m', σ', cls, rfl, hd', hA', hx, hq⟩ := x
    obtain ⟨σ'', hs, hq⟩ := hE _ _ _ hq
    exact ⟨h', tk, m', σ'', cls, rfl, (un hd' hs).2, hA'.sub (un hd' hs).1, hx.sub (un hd' hs).1, hq⟩
structure Iter (c : Cx) (I : Addr) (xs : List AV) (stable : Led → Prop) (mk : Nat → AO) : Prop where
  item : ∀ {i : Nat} {x : AV} {m : Loc} {τ : Led} {Q : Option Value → Loc → Led → Prop} {E : Value → Loc → Led → Prop}, stable τ → τ I = none → xs[i]? = some x → (∀ v, er v = x → Q (some v) m (τ.set I (mk (i + 1)))) → W c (pyNext (.ref I)) Q E m (τ.set I (mk i))
  done : ∀ {m : Loc} {τ : Led} {Q : Option Value → Loc → Led → Prop} {E : Value → Loc → Led → Prop}, stable τ → τ I = none → Q none m τ → W c (pyNext (.ref I)) Q E m (τ.set I (mk xs.length))
noncomputable def ForPost (Q : Flow → Loc → Led → Prop) (Inv : Loc → Led → Prop) (f : Flow) (m : Loc) (σ : Led) : Prop :=
  match f with
  | .next | .cont => Inv m σ
  | .brk => Q .next m σ
  | .ret v => Q (.ret v) m σ
inductive ForGoal (c : Cx) (env : Env) (target : Expr) (body : List Stmt) (Q : Flow → Loc → Led → Prop) (E : Value → Loc → Led → Prop) (it : Value) (m : Loc) (σ : Led) : Prop
  | mk (I : Addr) (xs : List AV) (stable : Led → Prop) (mk : Nat → AO) (τ : Led) (Inv : Nat → Loc → Led → Prop) (e : it = .ref I) (IT : Iter c I xs stable mk) (es : σ = τ.set I (mk 0)) (hI : τ I = none) (hst : ∀ i m τ, Inv i m τ → stable τ) (h0 : Inv 0 m τ)
      (turn : ∀ i x v m τ, xs[i]? = some x → er v = x → Inv i m τ → W c (assign target env v) (fun _ m τ => W c (execs body env) (ForPost Q (Inv (i + 1))) E m τ) E m τ)
      (fin : ∀ m τ, Inv xs.length m τ → Q .next m τ) : ForGoal c env target body Q E it m σ
/-- where a loop stands -/
inductive ForSt (c : Cx) (φ : Led) (s : Shared) (I : Addr) (mk : Nat → AO) (Inv : Nat → Loc → Led → Prop) (n : Nat) (k : Nat) (s' : Shared) : Prop
  | mk (h' : Heap) (tk : Nat) (m' : Loc) (τ' : Led) (i : Nat) (e : s' = { s with heap := h', toks := tk }) (d : Dis (τ'.set I (mk i)) φ) (x : At c.w c.B ((c.L, m') :: c.fs) h' ((τ'.set I (mk i)).un φ)) (hI : τ' I = none) (hv : Inv i m' τ') (hi : i ≤ n) (hk : k = n + 1 - i) : ForSt c φ s I mk Inv n k s'
inductive NextP (v₀ : AV) (m₀ : Loc) (σ₀ : Led) (r : Option Value) (m : Loc) (σ : Led) : Prop
  | mk (v : Value) (e : r = some v) (hv : er v = v₀) (em : m = m₀) (es : σ = σ₀) : NextP v₀ m₀ σ₀ r m σ
theorem W_For {c : Cx} {env : Env} {target iter : Expr} {body : List Stmt} {pos : Pos} {Q : Flow → Loc → Led → Prop} {E : Value → Loc → Led → Prop} {m : Loc} {σ : Led} (ok : Okay c) (hf : env.frame = some c.f)
    (h : W c (eval iter env) (fun x m σ => W c (pyIter x) (fun it m σ => ForGoal c env target body Q E it m σ) E m σ) E m σ)
    (hs : ∀ x, foldedSetIterable iter env x = pure x := by intro _; rfl) (ht : ∀ it v, letOwnedTupleGo target it v = pure () := by intro _ _; rfl) : W c (exec (.For target iter body [] pos) env) Q E m σ := fun φ s hd hA => by
  refine wpAny_For (wpAny_mono (h φ s hd hA) (fun x s₁ hx => ?_) fun _ _ x => x) hs
  obtain ⟨h₁, tk₁, m₁, σ₁, rfl, hd₁, hA₁, hx⟩ := hx
  refine wpAny_mono (hx φ _ hd₁ hA₁) (fun it s₂ hy => ?_) fun _ _ x => x.re
  obtain ⟨h₂, tk₂, m₂, σ₂, rfl, hd₂, hA₂, I, xs, stable, mk, τ, Inv, rfl, IT, rfl, hI, hst, h0, turn, fin⟩ := hy
  have hp := passes (φ := φ) (s := s) (E := E) (env := env) ok hf
  refine codeAny_forLoop (ForSt c φ s I mk Inv xs.length)
    ?_ (xs.length + 1) ⟨h₂, tk₂, m₂, τ, 0, rfl, hd₂, hA₂, hI, h0, Nat.zero_le _, rfl⟩ (ht _)
  rintro n s' ⟨h', tk, m', τ', i, rfl, hd', hA', hI', hinv, hi, rfl⟩
  by_cases hlt : i < xs.length
  · refine wpAny_mono (IT.item (x := xs[i]) (E := fun _ _ _ => False) (Q := NextP xs[i] m' (τ'.set I (mk (i + 1)))) (hst _ _ _ hinv) hI' (by simp [hlt]) (fun v hv => ⟨v, rfl, hv, rfl, rfl⟩) φ _ hd' hA') ?_ ?_
    · rintro r s₃ ⟨h₃, tk₃, m₃, σ₃, rfl, hd₃, hA₃, v, rfl, hv, rfl, rfl⟩
      have W₁ := turn i xs[i] v m₃ τ' (by simp [hlt]) hv hinv
      have F₁ := W_frameE (Led.one I (mk (i + 1))) W₁ (Dis.one hI')
      rw [Led.un_one hI'] at F₁
      refine wpAny_passesOwn hp (wpAny_mono (F₁ φ _ hd₃ hA₃) (fun _ s₄ hz => ?_) fun _ _ x => x.re)
      obtain ⟨h₄, tk₄, m₄, σ₄, rfl, hd₄, hA₄, τ₄, rfl, hd₄', W₂⟩ := hz
      refine wpAny_passesOwn hp (wpAny_mono (W_frameE (Led.one I (mk (i + 1))) W₂ hd₄' φ _ hd₄ hA₄) (fun f s₅ hz => ?_) fun _ _ x => x.re)
      obtain ⟨h₅, tk₅, m₅, σ₅, rfl, hd₅, hA₅, τ₅, rfl, hd₅', hq⟩ := hz
      have hI₅ : τ₅ I = none := (hd₅' I).resolve_right (by unfold Led.one; rw [if_pos rfl]; intro q; cases q)
      have sub : ∀ a o, τ₅.un φ a = some o → (τ₅.un (Led.one I (mk (i + 1)))).un φ a = some o := fun a o e => by
        cases q : τ₅ a with
        | some o' => rw [Led.un_left q] at e; exact Led.un_left (Led.un_left q) |>.trans e
        | none =>
          rw [Led.un_right q] at e
          rcases hd₅ a with r | r
          · rw [Led.un_right r]; exact e
          · rw [r] at e; cases e
      have leave : ∀ {f : Flow}, Q f m₅ τ₅ → PQ c φ s Q f { s with heap := h₅, toks := tk₅ } := fun hq => ⟨h₅, tk₅, m₅, τ₅, rfl, fun a => (hd₅ a).imp (fun e => (Led.un_none e).1) id, hA₅.sub sub, hq⟩
      have again : Inv (i + 1) m₅ τ₅ → ∃ k, k < xs.length + 1 - i ∧ ForSt c φ s I mk Inv xs.length k { s with heap := h₅, toks := tk₅ } := fun hq => by
        rw [Led.un_one hI₅] at hd₅ hA₅
        exact ⟨xs.length + 1 - (i + 1), by omega, h₅, tk₅, m₅, τ₅, i + 1, rfl, hd₅, hA₅, hI₅, hq, hlt, rfl⟩
      cases f with
      | next => exact again hq
      | cont => exact again hq
      | brk => exact leave hq
      | ret v => exact leave hq
    · rintro e s' ⟨_, _, _, _, _, _, _, _, _, q⟩; exact q.elim
  · have hi' : i = xs.length := by omega
    subst hi'
    refine wpAny_mono (IT.done (E := fun _ _ _ => False) (Q := fun r m σ => r = none ∧ m = m' ∧ σ = τ') (hst _ _ _ hinv) hI' ⟨rfl, rfl, rfl⟩ φ _ hd' hA') ?_ ?_
    · rintro r s₃ ⟨h₃, tk₃, m₃, σ₃, rfl, hd₃, hA₃, rfl, rfl, rfl⟩
      exact wpAny_execs_nil ⟨h₃, tk₃, m₃, σ₃, rfl, hd₃, hA₃, fin _ _ hinv⟩
    · rintro e s' ⟨_, _, _, _, _, _, _, _, _, q⟩; exact q.elim
noncomputable def WhilePost (Q : Flow → Loc → Led → Prop) (Inv : Loc → Led → Prop) (f : Flow) (m : Loc) (σ : Led) : Prop :=
  match f with
  | .next | .cont => Inv m σ
  | .brk => Q .next m σ
  | .ret v => Q (.ret v) m σ
theorem W_While {c : Cx} {env : Env} {test : Expr} {body orelse : List Stmt} {pos : Pos} {Q : Flow → Loc → Led → Prop} {E : Value → Loc → Led → Prop} {m : Loc} {σ : Led} (ok : Okay c) (hf : env.frame = some c.f)
    (Inv : Nat → Loc → Led → Prop) (n : Nat) (h0 : Inv n m σ)
    (turn : ∀ n m σ, Inv n m σ → W c (isTrue test env (eval test env)) (fun b m σ => if b then W c (execs body env) (WhilePost Q (fun m σ => ∃ k, k < n ∧ Inv k m σ)) E m σ else W c (execs orelse env) Q E m σ) E m σ) :
    W c (exec (.While test body orelse pos) env) Q E m σ := fun φ s hd hA => by
  have hp := passes (φ := φ) (s := s) (E := E) (env := env) ok hf
  refine wpAny_While (codeAny_whileLoop (fun n s' => PQ c φ s (fun n => Inv n) n s') ?_ n ⟨s.heap, s.toks, m, σ, rfl, hd, hA, h0⟩)
  rintro n s' ⟨h', tk, m', σ', rfl, hd', hA', hinv⟩
  refine wpAny_passesOwn hp (wpAny_mono (turn n m' σ' hinv φ _ hd' hA') (fun b s₂ hz => ?_) fun _ _ x => x.re)
  obtain ⟨h₂, tk₂, m₂, σ₂, rfl, hd₂, hA₂, hq⟩ := hz
  cases b with
  | true =>
    simp only [if_true] at hq ⊢
    refine wpAny_passesOwn hp (wpAny_mono (hq φ _ hd₂ hA₂) (fun f s₃ hz => ?_) fun _ _ x => x.re)
    obtain ⟨h₃, tk₃, m₃, σ₃, rfl, hd₃, hA₃, hq⟩ := hz
    cases f with
    | next => obtain ⟨k, hk, hq⟩ := hq; exact ⟨k, hk, h₃, tk₃, m₃, σ₃, rfl, hd₃, hA₃, hq⟩
    | cont => obtain ⟨k, hk, hq⟩ := hq; exact ⟨k, hk, h₃, tk₃, m₃, σ₃, rfl, hd₃, hA₃, hq⟩
    | brk => exact ⟨h₃, tk₃, m₃, σ₃, rfl, hd₃, hA₃, hq⟩
    | ret v => exact ⟨h₃, tk₃, m₃, σ₃, rfl, hd₃, hA₃, hq⟩
  | false =>
    simp only [Bool.false_eq_true, if_false] at hq ⊢
    exact wpAny_passesOwn hp (wpAny_mono (hq φ _ hd₂ hA₂) (fun _ _ x => x.re) fun _ _ x => x.re)
end Mine
end
section
namespace Mine
noncomputable def Cx.into (c : Cx) (m : Loc) (env : Env) (L : Addr) : Cx := { c with A := c.A.deeper env, L := L, f := L, fs := (c.L, m) :: c.fs }
noncomputable abbrev Cx.in1 (c : Cx) : Cx := { c with A := c.A.in1 }
noncomputable def retOf : Flow → Value
  | .ret v => v
  | _ => .none
noncomputable def eraseM (m : Str → Option Value) : Loc := fun x => (m x).map er
/-- the cells of a new frame onto the ledger -/
noncomputable def cellFold (cm : Str → Option Value) : List (Str × Addr) → Led → Led
  | [], σ => σ
  | (n, c) :: r, σ => (cellFold cm r σ).set c (.cell ((cm n).map er))
theorem At.pop {w : World} {B h : Heap} {p : Addr × Loc} {fs : List (Addr × Loc)} {σ : Led} (x : At w B (p :: fs) h σ) : At w B fs h σ :=
  ⟨x.keep, fun q hq => x.frames q (.tail _ hq), fun q hq => x.above q (.tail _ hq), (List.nodup_cons.mp x.nodup).2, x.led, x.new, fun a ao e q hq => x.apart a ao e q (.tail _ hq)⟩
theorem ExcTr.pop {B h : Heap} {p : Addr × Loc} {fs : List (Addr × Loc)} {σ : Led} {e cls mk : Value} (x : ExcTr B (p :: fs) h σ e cls mk) : ExcTr B fs h σ e cls mk := by
  obtain ⟨a, o, vs, T, oT, ts, h1, h2, h3, h4, h5, h6, h7, h8, h9, h10, h11, h12, h13, h14, h15, h16⟩ := x
  exact ⟨a, o, vs, T, oT, ts, h1, h2, h3, h4, h5, h6, fun q hq => h7 q (.tail _ hq), h8, h9, h10, h11, h12, h13, fun q hq => h14 q (.tail _ hq), h15, h16⟩
theorem Okay.into {c : Cx} {m : Loc} {env : Env} {L : Addr} (ok : Okay c) (hf : env.frame = some L) (hk : env.scope.kind ≠ .module) : Okay (c.into m env L) := by
  obtain ⟨env', outer, h1, h2, h3⟩ := ok.stack
  refine ⟨env, env' :: outer, Around.frames_deeper h1, hf, fun e he => ?_⟩
  rcases List.mem_cons.mp he with rfl | he
  · exact ⟨hk, L, hf, .inl rfl⟩
  · obtain ⟨a, L', b, d⟩ := h3 e he
    refine ⟨a, L', b, .inr ?_⟩
    rcases d with rfl | d
    · exact .head _
    · exact .tail _ d
theorem cellFold_at {w : World} {B h : Heap} {L : Addr} {m : Loc} {fs : List (Addr × Loc)} {σ φ : Led} {n : Nat} {cm : Str → Option Value} (x : At w B ((L, m) :: fs) h (σ.un φ)) (hd : Dis σ φ)
    (hn : ∀ a, n ≤ a → σ.un φ a = none) (hB : ∀ a, n ≤ a → B.get? a = none) (hF : ∀ p ∈ fs, p.1 < n) : ∀ (cs : List (Str × Addr)), (∀ y z, (y, z) ∈ cs → h.IsCell z (cm y)) → (∀ y z, (y, z) ∈ cs → L < z) → n ≤ L →
      At w B ((L, m) :: fs) h ((cellFold cm cs σ).un φ) ∧ Dis (cellFold cm cs σ) φ
  | [], _, _, _ => ⟨x, hd⟩
  | (y, z) :: r, hc, hl, hL => by
    obtain ⟨a, b⟩ := cellFold_at x hd hn hB hF r (fun y z e => hc y z (.tail _ e)) (fun y z e => hl y z (.tail _ e)) hL
    have hz := hl y z (.head _)
    have hφ : φ z = none := (Led.un_none (hn z (Nat.le_trans hL (Nat.le_of_lt hz)))).2
    obtain ⟨o, ho, hd'⟩ := hc y z (.head _)
    refine ⟨?_, b.set hφ⟩
    show At w B _ h (((cellFold cm r σ).set z _).un φ)
    rw [Led.un_set]
    refine ⟨a.keep, a.frames, a.above, a.nodup, fun e ao q => ?_, fun e ao q => ?_, fun e ao q p hp => ?_⟩
    · by_cases r : e = z
      · subst r; rw [Led.set_self] at q; cases q; exact ⟨o, ho, _, hd', rfl⟩
      · rw [Led.set_ne r] at q; exact a.led e ao q
    · by_cases r : e = z
      · subst r; exact hB _ (Nat.le_trans hL (Nat.le_of_lt hz))
      · rw [Led.set_ne r] at q; exact a.new e ao q
    · by_cases r : e = z
      · subst r
        rcases List.mem_cons.mp hp with rfl | hp
        · exact Nat.ne_of_gt hz
        · exact Nat.ne_of_gt (Nat.lt_trans (Nat.lt_of_lt_of_le (hF p hp) hL) hz)
      · rw [Led.set_ne r] at q; exact a.apart e ao q p hp
theorem mem_cellsFrom {x : Str × Addr} : ∀ (names : List (Str × NameKind)) (n : Nat) (acc : List (Str × Addr)), x ∈ cellsFrom n names acc → x ∈ acc ∨ n ≤ x.2
  | [], _, _, h => .inl h
  | (y, k) :: r, n, acc, h => by
    unfold cellsFrom at h
    split at h
    · rcases mem_cellsFrom r (n + 1) _ h with e | e
      · rcases List.mem_cons.mp e with rfl | e
        · exact .inr (Nat.le_refl _)
        · exact .inl e
      · exact .inr (Nat.le_of_succ_le e)
    · exact mem_cellsFrom r n acc h
theorem lookup_of_nodup {x : Str} {a : Addr} : ∀ {l : List (Str × Addr)}, (l.map (·.1)).Nodup → (x, a) ∈ l → l.lookup x = some a
  | (y, b) :: r, hn, h => by
    rw [List.map_cons, List.nodup_cons] at hn
    rcases List.mem_cons.mp h with e | h
    · cases e; simp
    · have : x ≠ y := fun q => hn.1 (q ▸ List.mem_map.mpr ⟨_, h, rfl⟩)
      rw [List.lookup_cons]
      simp only [beq_eq_false_iff_ne.mpr this]
      exact lookup_of_nodup hn.2 h
section
variable {c : Cx} {E : Value → Loc → Led → Prop} {m : Loc} {σ : Led}
/-- the head of a call behind the binding of its arguments -/
noncomputable def Enters (c : Cx) (fd : FuncData) (a : Addr) (body : List Stmt) (Q : Value → Loc → Led → Prop) (E : Value → Loc → Led → Prop) (binds : List (Str × Value)) (m : Loc) (σ : Led) : Prop :=
  (∀ n, ∀ x ∈ binds, fd.scope.names.lookup x.1 = some .local ∨ (fd.scope.names.lookup x.1 = some .cell ∧ ((cellsFrom n fd.scope.names []).lookup x.1).isSome = true)) ∧
  ∀ L, (∀ e, L ≤ e → σ e = none) → W (c.into m (callEnvC fd L a) L) (execs body (callEnvC fd L a)) (fun fl _ σ' => Q (retOf fl) m σ') (fun cls _ σ' => E cls m σ') (eraseM (bindL (callEnvC fd L a).kindOf binds fun _ => none))
    (cellFold (bindC (callEnvC fd L a).kindOf binds fun _ => none) (cellsFrom (L + 1) fd.scope.names []) σ)
/-- a code that hands back a value -/
noncomputable def WC (c : Cx) (code : Code) (Q : Value → Loc → Led → Prop) (E : Value → Loc → Led → Prop) (m : Loc) (σ : Led) : Prop :=
  ∀ (φ : Led) (s : Shared), Dis σ φ → At c.w c.B ((c.L, m) :: c.fs) s.heap (σ.un φ) → codeAny (model c.prog c.w) c.A code (fun r s' => match r with | .ok (.ret v) => PQ c φ s Q v s' | .ok _ => False | .error e => PE c φ s E e s') s
theorem W_ofCode {f : Value} {pos : List Value} {kw : List (Str × Value)} {Q : Value → Loc → Led → Prop} (h : WC c (.call f ⟨pos, kw⟩) Q E m σ) : W c (call f pos kw) Q E m σ := fun φ s hd hA => wpAny_call (h φ s hd hA)
theorem W_callFn {a : Addr} {o : Obj} {fd : FuncData} {body : List Stmt} {args : Args} {Q : Value → Loc → Led → Prop} (ok : Okay c) (hroom : c.A.depth < recursionLimit) (ho : c.B.get? a = some o) (hdata : o.data = .func fd) (hlim : c.B.NoLimit)
    (hcd : c.B.CodeRec fd.code fd.qualname) (hbody : fd.body = .stmts body) (hclo : fd.closure = []) (hnd : ∀ n, ((cellsFrom n fd.scope.names []).map (·.1)).Nodup)
    (hco : fd.scope.isCoroutine = false) (hgen : fd.scope.isGenerator = false) (hk : fd.scope.kind = .function)
    (h : W c.in1 (bindArgs fd args) (Enters c fd a body Q E) E m σ) : WC c (.call (.ref a) args) Q E m σ := fun φ s hd hA => by
  refine (codeAny_call_function hroom (hA.keep _ _ ho) hdata hco hgen hbody (hcd.keeps hA.keep) ?_)
  refine wpAny_mono (h φ s hd hA) (fun binds s₁ hz => ?_) fun e s₁ hz => by
    exact hz
  obtain ⟨h₁, tk₁, m₁, σ₁, rfl, hd₁, hA₁, hkinds, hbd⟩ := hz
  rw [hclo]
  refine wpAny_newFunctionEnv_cells hk (hkinds _) fun env he s₂ x => ?_
  subst he
  have hloc : (newEnv fd.scope h₁.objs.size fd.globals (cellsFrom (h₁.objs.size + 1) fd.scope.names []) (fd.qualname ++ ".<locals>.") (some a) fd.code none fd.builtins) = callEnvC fd h₁.objs.size a := rfl
  rw [show ({ s with heap := h₁, toks := tk₁ } : Shared).heap.objs.size = h₁.objs.size from rfl, hloc] at x ⊢
  obtain ⟨h₂, tk₂, rfl⟩ := x.toInCall.same
  have keep₂ : ∀ b o, h₁.get? b = some o → h₂.get? b = some o := x.toInCall.keep
  refine ⟨(hlim.keeps hA₁.keep).keeps keep₂, codeAny_func ?_⟩
  have hL : h₁.objs.size < h₂.objs.size := x.toInCall.ns.lt
  have base : At c.w c.B ((h₁.objs.size, eraseM (bindL (callEnvC fd h₁.objs.size a).kindOf binds fun _ => none)) :: (c.L, m₁) :: c.fs) h₂ (σ₁.un φ) := by
    have y := hA₁.keeps keep₂
    refine ⟨y.keep, fun p hp => ?_, fun p hp => ?_, List.nodup_cons.mpr ⟨fun hm => ?_, y.nodup⟩, y.led, y.new, fun e ao q p hp => ?_⟩
    · rcases List.mem_cons.mp hp with rfl | hp
      · exact ⟨_, x.toInCall.ns, fun _ => rfl⟩
      · exact y.frames p hp
    · rcases List.mem_cons.mp hp with rfl | hp
      · exact hA₁.newB (Nat.le_refl _)
      · exact y.above p hp
    · obtain ⟨p, hp, q⟩ := List.mem_map.mp hm
      exact absurd (hA₁.frames p hp).lt (by rw [q]; exact Nat.lt_irrefl _)
    · rcases List.mem_cons.mp hp with rfl | hp
      · exact Nat.ne_of_lt (hA₁.lt q)
      · exact y.apart e ao q p hp
  obtain ⟨hA₂, hd₂⟩ := cellFold_at (cm := bindC (callEnvC fd h₁.objs.size a).kindOf binds fun _ => none) (n := h₁.objs.size) base hd₁ (fun e he => hA₁.fresh he) (fun _ he => hA₁.newB he) (fun p hp => (hA₁.frames p hp).lt)
    (cellsFrom (h₁.objs.size + 1) fd.scope.names []) (fun y z e => x.cell y z (lookup_of_nodup (hnd _) e)) (fun y z e => by
      rcases mem_cellsFrom _ _ _ e with r | r
      · cases r
      · exact r) (Nat.le_refl _)
  have okC : Okay (c.into m₁ (callEnvC fd h₁.objs.size a) h₁.objs.size) := ok.into rfl (by show fd.scope.kind ≠ .module; rw [hk]; decide)
  refine wpAny_mono (hbd h₁.objs.size (fun e he => (Led.un_none (hA₁.fresh he)).1) φ _ hd₂ hA₂) (fun fl s₃ hz => ?_) fun e s₃ hz => ?_
  · obtain ⟨h₃, tk₃, m₃, σ₃, rfl, hd₃, hA₃, hq⟩ := hz
    cases fl <;> exact ⟨h₃, tk₃, m₁, σ₃, rfl, hd₃, hA₃.pop, hq⟩
  · obtain ⟨h₃, tk₃, m₃, σ₃, cls, rfl, hd₃, hA₃, hx₃, hq⟩ := hz
    unfold leaving
    refine wpAny_bind (noteFrame_at okC rfl hA₃ hx₃ fun h₄ hA₄ hx₄ => ?_)
    refine setFlight_tr hA₄ hx₄ fun h₅ hA₅ hx₅ => ?_
    exact ⟨h₅, tk₃, m₁, σ₃, cls, rfl, hd₃, hA₅.pop, hx₅.pop.exc (.inl rfl), hq⟩
end
end Mine
end
section
namespace Mine
section
variable {c : Cx} {E : Value → Loc → Led → Prop} {m : Loc} {σ : Led} {env : Env}
/-- what looks at the heap alone and finds its answer in what stays -/
theorem W_looks {α : Type} {t : Sem α} {a : α} {Q : α → Loc → Led → Prop} (h : ∀ h, (∀ b o, c.B.get? b = some o → h.get? b = some o) → Looks (model c.prog c.w) h t a) (hq : Q a m σ) : W c t Q E m σ := fun _ s hd hA =>
  h s.heap hA.keep _ _ _ s (fun _ _ e => e) ⟨s.heap, s.toks, m, σ, rfl, hd, hA, hq⟩
/-- a call with written arguments, none starred: f's keeper is a frame or the machine -/
theorem W_callWith {f : Value} {first : List Value} {pos : Pos} {args : List (Bool × Sem Value)} {keywords : List (Option Str × Sem Value)} {Q : Value → Loc → Led → Prop} (hplain : (args.any (·.1) || keywords.any (·.1.isNone)) = false) (P : Led → Prop)
    (hk : ∀ (σ φ : Led) (m : Loc) (h : Heap), P σ → At c.w c.B ((c.L, m) :: c.fs) h (σ.un φ) → ∃ k, (k = Keeper.frame ∨ k = Keeper.machine ∨ k = Keeper.boundFrame) ∧ Looks (model c.prog c.w) h (keeperOf f) k)
    (h : W c (evalArgs f true args keywords) (fun a m σ => P σ ∧ W c (call f (first ++ a.pos) a.kw) Q E m σ) E m σ) : W c (callWith pos f first args keywords) Q E m σ := fun φ s hd hA => by
  unfold callWith
  refine wpAny_bind (wpAny_holding (wpAny_mono (h φ s hd hA) (fun a s₁ h₁ => wpAny_bind (wpAny_standAt ?_)) fun _ _ x => x))
  obtain ⟨h₁, tk₁, m₁, σ₁, rfl, hd₁, hA₁, hP, hc⟩ := h₁
  obtain ⟨k, hk', L⟩ := hk _ _ _ _ hP hA₁
  simp only [hplain]
  refine wpAny_bind (L.here ?_)
  have z : wpAny (model c.prog c.w) c.A (call f (first ++ a.pos) a.kw) (PQ c φ s Q) (PE c φ s E) { s with heap := h₁, toks := tk₁ } := wpAny_mono (hc φ _ hd₁ hA₁) (fun _ _ y => y.re) fun _ _ y => y.re
  have tail : ∀ {t : Sem Value}, wpAny (model c.prog c.w) c.A t (PQ c φ s Q) (PE c φ s E) { s with heap := h₁, toks := tk₁ } → wpAny (model c.prog c.w) c.A (t >>= fun r => holding [r] point >>= fun _ => pure r) (PQ c φ s Q) (PE c φ s E) { s with heap := h₁, toks := tk₁ } :=
    fun ht => wpAny_bind (wpAny_mono ht (fun r s₂ hr => wpAny_bind (wpAny_holding (wpAny_point (wpAny_pure hr)))) fun _ _ x => x)
  have marked (mk : Value) : wpAny (model c.prog c.w) c.A (callMarked mk f (first ++ a.pos) a.kw) (PQ c φ s Q) (PE c φ s E) { s with heap := h₁, toks := tk₁ } := by unfold callMarked; exact Calls.wpAny_keep z
  rcases hk' with rfl | rfl | rfl <;> dsimp only <;> first | exact tail z | (split <;> first | exact tail z | exact tail (marked _))
/-- the same with a starred argument -/
theorem W_callWithStar {f : Value} {first : List Value} {pos : Pos} {args : List (Bool × Sem Value)} {Q : Value → Loc → Led → Prop} (hst : args.any (·.1) = true) (P : Led → Prop)
    (hk : ∀ (σ φ : Led) (m : Loc) (h : Heap), P σ → At c.w c.B ((c.L, m) :: c.fs) h (σ.un φ) → ∃ k, (k = Keeper.frame ∨ k = Keeper.machine ∨ k = Keeper.boundFrame) ∧ Looks (model c.prog c.w) h (keeperOf f) k)
    (h : W c (evalArgs f true args []) (fun a m σ => P σ ∧ W c (call f (first ++ a.pos) a.kw) Q E m σ) E m σ) : W c (callWith pos f first args []) Q E m σ := fun φ s hd hA =>
  ks_call (P := fun h => ∃ σ φ m, P σ ∧ At c.w c.B ((c.L, m) :: c.fs) h (σ.un φ)) hst (fun h ⟨σ, φ, m, a, b⟩ => hk σ φ m h a b) (wpAny_mono (h φ s hd hA) (fun a s₁ h₁ => by
    obtain ⟨h₁, tk₁, m₁, σ₁, rfl, hd₁, hA₁, hP, hc⟩ := h₁
    exact ⟨⟨σ₁, φ, m₁, hP, hA₁⟩, wpAny_mono (hc φ _ hd₁ hA₁) (fun _ _ y => y.re) fun _ _ y => y.re⟩) fun _ _ x => x)
theorem W_lift1 {α β : Type} {φ : Led} {s : Shared} {t : Sem α} {g : α → β} {Q : β → Loc → Led → Prop} (x : wpAny (model c.prog c.w) c.A t (PQ c φ s fun a => Q (g a)) (PE c φ s E) s) :
    wpAny (model c.prog c.w) c.A t (fun a s' => PQ c φ s Q (g a) s') (PE c φ s E) s := x
theorem W_args_nil {f : Value} {pos : Pos} {Q : Args → Loc → Led → Prop} (h : Q ⟨[], []⟩ m σ) : W c (evalArgs f true (backTo pos (starEach [] env)) []) Q E m σ := fun _ s hd hA => evalArgs_nil3 ⟨s.heap, s.toks, m, σ, rfl, hd, hA, h⟩
theorem W_args {f : Value} {pos : Pos} {e : Expr} {rest : List Expr} {Q : Args → Loc → Led → Prop} (h : W c (spliced (backTo pos (starEach (e :: rest) env))) (fun vs => Q ⟨vs, []⟩) E m σ)
    (he : starEach (e :: rest) env = (false, eval e env) :: starEach rest env := by rfl) : W c (evalArgs f true (backTo pos (starEach (e :: rest) env)) []) Q E m σ := fun φ s hd hA => by
  have z := W_lift1 (Q := Q) (g := fun vs => (⟨vs, []⟩ : Args)) (h φ s hd hA)
  rw [he] at z ⊢
  exact Calls.evalArgs_plain z
theorem keep_plain {M : Model} {h : Heap} {f : Value} (hf : ∀ a, f ≠ .ref a) : ∃ k, (k = Keeper.frame ∨ k = Keeper.machine ∨ k = Keeper.boundFrame) ∧ Looks M h (keeperOf f) k :=
  ⟨.machine, .inr (.inl rfl), by
    have : keeperOf f = pure .machine := by unfold keeperOf; split; exact absurd rfl (hf _); rfl
    rw [this]; exact .now⟩
/-- a built-in called by written arguments -/
theorem W_callWithB {f : Value} {first : List Value} {pos : Pos} {e : Expr} {rest : List Expr} {Q : Value → Loc → Led → Prop} (hf : ∀ a, f ≠ .ref a) (h : W c (spliced (backTo pos (starEach (e :: rest) env))) (fun vs m σ => W c (call f (first ++ vs)) Q E m σ) E m σ)
    (he : starEach (e :: rest) env = (false, eval e env) :: starEach rest env := by rfl) (hplain : (backTo pos (starEach rest env)).any (·.1) = false := by rfl) : W c (callWith pos f first (backTo pos (starEach (e :: rest) env)) []) Q E m σ :=
  W_callWith (by rw [he]; show ((false || (backTo pos (starEach rest env)).any (·.1)) || false) = false; rw [hplain]; rfl) (fun _ => True) (fun _ _ _ _ _ _ => keep_plain hf) (W_args (W_mono h (fun _ _ _ x => ⟨trivial, x⟩) fun _ _ _ x => x) he)
theorem W_callWithB0 {f : Value} {first : List Value} {pos : Pos} {Q : Value → Loc → Led → Prop} (hf : ∀ a, f ≠ .ref a) (h : W c (call f first) Q E m σ) : W c (callWith pos f first (backTo pos (starEach [] env)) []) Q E m σ :=
  W_callWith rfl (fun _ => True) (fun _ _ _ _ _ _ => keep_plain hf) (W_args_nil ⟨trivial, by simpa using h⟩)
/-- a function or a class of the written part -/
theorem W_callWithK {K : Frag} {f : Value} {first : List Value} {pos : Pos} {e : Expr} {rest : List Expr} {Q : Value → Loc → Led → Prop} (X : K.In c.B) (hk : keepIn K f = true) (h : W c (spliced (backTo pos (starEach (e :: rest) env))) (fun vs m σ => W c (call f (first ++ vs)) Q E m σ) E m σ)
    (he : starEach (e :: rest) env = (false, eval e env) :: starEach rest env := by rfl) (hplain : (backTo pos (starEach rest env)).any (·.1) = false := by rfl) : W c (callWith pos f first (backTo pos (starEach (e :: rest) env)) []) Q E m σ :=
  W_callWith (by rw [he]; show ((false || (backTo pos (starEach rest env)).any (·.1)) || false) = false; rw [hplain]; rfl) (fun _ => True) (fun _ _ _ h _ hA => keeps_K hk h (X.keeps hA.keep)) (W_args (W_mono h (fun _ _ _ x => ⟨trivial, x⟩) fun _ _ _ x => x) he)
theorem W_callWithK0 {K : Frag} {f : Value} {first : List Value} {pos : Pos} {Q : Value → Loc → Led → Prop} (X : K.In c.B) (hk : keepIn K f = true) (h : W c (call f first) Q E m σ) : W c (callWith pos f first (backTo pos (starEach [] env)) []) Q E m σ :=
  W_callWith rfl (fun _ => True) (fun _ _ _ h _ hA => keeps_K hk h (X.keeps hA.keep)) (W_args_nil ⟨trivial, by simpa using h⟩)
theorem W_Call {func : Expr} {args : List Expr} {pos : Pos} {Q : Value → Loc → Led → Prop} (h : W c (eval func env) (fun f m σ => W c (callWith pos f [] (backTo pos (starEach args env)) []) Q E m σ) E m σ)
    (he : eval (.Call func args [] pos) env = (do callWith pos (← eval func env) [] (backTo pos (starEach args env)) (backToKw pos (keywordEach [] env))) := by rfl) : W c (eval (.Call func args [] pos) env) Q E m σ := by
  rw [he]; exact W_bind h
/-- a method called by written arguments, none starred -/
theorem W_CallMethod {o : Expr} {name : Str} {apos pos : Pos} {args : List Expr} {Q : Value → Loc → Led → Prop}
    (h : W c (eval o env) (fun ov m σ => W c (getMethod ov name (do return (← importBound o env).getD true)) (fun f m σ => W c (callWith pos f.1 f.2 (backTo pos (starEach args env)) []) Q E m σ) E m σ) E m σ)
    (hbase : attributeBase o name env (eval o env) = eval o env := by rfl)
    (hfew : methodCallForm (args.length + ([] : List Keyword).length) (backTo pos (starEach args env)) (backToKw pos (keywordEach [] env)) = true := by rfl)
    (hline : (apos.endLine == pos.line) = true := by rfl) : W c (eval (.Call (.Attribute o name apos) args [] pos) env) Q E m σ := by
  rw [arm_eval_Call, hbase]
  refine W_bind (W_mono h (fun ov m σ h₁ => W_bind (W_standAt ?_)) fun _ _ _ x => x)
  have hpos : methodCallPos true o env apos pos = pure pos := by unfold methodCallPos; simp [hline]
  unfold methodCall
  rw [hfew]
  refine W_bind (W_holding ?_)
  unfold calleeOf
  rw [if_pos rfl]
  refine W_mono h₁ (fun f m σ h₂ => ?_) fun _ _ _ x => x
  rw [hpos]
  exact W_bind (W_pure h₂)
end
end Mine
end
section
namespace Mine
/-! what a value reads as, through the ledger -/
mutual
noncomputable def RD (σ : Led) : PyData → AV → Prop
  | .none, v => v = .none
  | .bool b, v => v = .bool b
  | .int i, v => v = .int i
  | .str s, v => v = .str s
  | .list ds, v => ∃ a xs, v = .ref a ∧ σ a = some (.list xs) ∧ RDs σ ds xs
  | .tuple ds, v => ∃ a xs, v = .ref a ∧ σ a = some (.tuple xs) ∧ RDs σ ds xs
  | .dict _, _ => False
noncomputable def RDs (σ : Led) : List PyData → List AV → Prop
  | [], xs => xs = []
  | d :: ds, xs => ∃ x r, xs = x :: r ∧ RD σ d x ∧ RDs σ ds r
end
theorem map_er_cons {vs : List Value} {x : AV} {r : List AV} (h : vs.map er = x :: r) : ∃ v vs', vs = v :: vs' ∧ er v = x ∧ vs'.map er = r := by
  cases vs with
  | nil => cases h
  | cons v vs' => exact ⟨v, vs', rfl, (List.cons.inj h).1, (List.cons.inj h).2⟩
mutual
theorem RD.reads {w : World} {B h : Heap} {fs : List (Addr × Loc)} {σ : Led} (hA : At w B fs h σ) : ∀ {d : PyData} {av : AV}, RD σ d av → ∀ {v : Value}, er v = av → ∃ as, Reads h v d as
  | .none, av, x, v, e => by
    unfold RD at x; subst x; rw [er_none e]; exact ⟨_, .none⟩
  | .bool b, av, x, v, e => by
    unfold RD at x; subst x; rw [er_bool e]; exact ⟨_, .bool _⟩
  | .int b, av, x, v, e => by
    unfold RD at x; subst x; obtain ⟨t, rfl⟩ := er_int e; exact ⟨_, .int _ _⟩
  | .str b, av, x, v, e => by
    unfold RD at x; subst x; obtain ⟨t, rfl⟩ := er_str e; exact ⟨_, .str _ _⟩
  | .list ds, av, x, v, e => by
    unfold RD at x
    obtain ⟨a, xs, rfl, ha, hx⟩ := x
    rw [er_ref e]
    obtain ⟨o, ho, vs, n, rfl, hv⟩ := hA.led _ _ ha
    obtain ⟨as, r⟩ := RDs.reads hA hx hv
    exact ⟨_, .list ho rfl rfl r⟩
  | .tuple ds, av, x, v, e => by
    unfold RD at x
    obtain ⟨a, xs, rfl, ha, hx⟩ := x
    rw [er_ref e]
    obtain ⟨o, ho, vs, n, rfl, hv⟩ := hA.led _ _ ha
    obtain ⟨as, r⟩ := RDs.reads hA hx hv
    exact ⟨_, .tuple ho rfl rfl r⟩
  | .dict _, av, x, v, e => by unfold RD at x; exact x.elim
theorem RDs.reads {w : World} {B h : Heap} {fs : List (Addr × Loc)} {σ : Led} (hA : At w B fs h σ) : ∀ {ds : List PyData} {xs : List AV}, RDs σ ds xs → ∀ {vs : List Value}, vs.map er = xs → ∃ as, ReadsAll h vs ds as
  | [], xs, x, vs, e => by
    unfold RDs at x; subst x
    cases vs with
    | nil => exact ⟨_, .nil⟩
    | cons _ _ => cases e
  | d :: ds, xs, x, vs, e => by
    unfold RDs at x
    obtain ⟨x, r, rfl, h1, h2⟩ := x
    obtain ⟨v, vs', rfl, e1, e2⟩ := map_er_cons e
    obtain ⟨as, r1⟩ := RD.reads hA h1 e1
    obtain ⟨bs, r2⟩ := RDs.reads hA h2 e2
    exact ⟨_, .cons r1 r2⟩
end
mutual
theorem RD.mono {σ σ' : Led} (hs : ∀ a o, σ a = some o → σ' a = some o) : ∀ {d : PyData} {av : AV}, RD σ d av → RD σ' d av
  | .none, _, x => x
  | .bool _, _, x => x
  | .int _, _, x => x
  | .str _, _, x => x
  | .list ds, av, x => by
    unfold RD at x ⊢
    obtain ⟨a, xs, h1, h2, h3⟩ := x
    exact ⟨a, xs, h1, hs _ _ h2, RDs.mono hs h3⟩
  | .tuple ds, av, x => by
    unfold RD at x ⊢
    obtain ⟨a, xs, h1, h2, h3⟩ := x
    exact ⟨a, xs, h1, hs _ _ h2, RDs.mono hs h3⟩
  | .dict _, _, x => x
theorem RDs.mono {σ σ' : Led} (hs : ∀ a o, σ a = some o → σ' a = some o) : ∀ {ds : List PyData} {xs : List AV}, RDs σ ds xs → RDs σ' ds xs
  | [], _, x => x
  | d :: ds, xs, x => by
    unfold RDs at x ⊢
    obtain ⟨x, r, e, h1, h2⟩ := x
    exact ⟨x, r, e, RD.mono hs h1, RDs.mono hs h2⟩
end
theorem Led.un_sub {σ φ : Led} : ∀ a o, σ a = some o → σ.un φ a = some o := fun _ _ e => Led.un_left e
section
variable {c : Cx} {E : Value → Loc → Led → Prop} {m : Loc} {σ : Led} {env : Env}
theorem W_eq {a b : Value} {da db : PyData} {Q : Value → Loc → Led → Prop} (ra : RD σ da (er a)) (rb : RD σ db (er b)) (ha : da.canLay0 = true) (hb : db.canLay0 = true) (hu : c.A.units + min da.depth db.depth < cLine) (h : Q (.bool (PyData.eqv da db)) m σ) :
    W c (compareOp .Eq a b) Q E m σ := fun φ s hd hA => by
  obtain ⟨_, r1⟩ := (ra.mono Led.un_sub).reads hA rfl
  obtain ⟨_, r2⟩ := (rb.mono Led.un_sub).reads hA rfl
  exact SeqAt.compareEq_reads r1 r2 ha hb hu ⟨s.heap, s.toks, m, σ, rfl, hd, hA, h⟩
theorem W_ne {a b : Value} {da db : PyData} {Q : Value → Loc → Led → Prop} (ra : RD σ da (er a)) (rb : RD σ db (er b)) (ha : da.canLay0 = true) (hb : db.canLay0 = true) (hu : c.A.units + min da.depth db.depth < cLine) (h : Q (.bool (!PyData.eqv da db)) m σ) :
    W c (compareOp .NotEq a b) Q E m σ := fun φ s hd hA => by
  obtain ⟨_, r1⟩ := (ra.mono Led.un_sub).reads hA rfl
  obtain ⟨_, r2⟩ := (rb.mono Led.un_sub).reads hA rfl
  exact SeqAt.compareNe_reads r1 r2 ha hb hu ⟨s.heap, s.toks, m, σ, rfl, hd, hA, h⟩
theorem W_in {x l : Value} {ds : List PyData} {d : PyData} {Q : Value → Loc → Led → Prop} (rl : RD σ (.list ds) (er l)) (rx : RD σ d (er x)) (hl : PyData.canLayAll0 ds = true) (hx : d.canLay0 = true)
    (hu : c.A.units + 1 + min (PyData.depthAll ds) d.depth < cLine) (h : Q (.bool (ds.any fun y => PyData.eqv y d)) m σ) : W c (compareOp .In x l) Q E m σ := fun φ s hd hA => by
  obtain ⟨_, r1⟩ := (rl.mono Led.un_sub).reads hA rfl
  obtain ⟨_, r2⟩ := (rx.mono Led.un_sub).reads hA rfl
  exact SeqAt.in_list_reads r1 r2 hl hx hu ⟨s.heap, s.toks, m, σ, rfl, hd, hA, h⟩
theorem W_notIn {x l : Value} {ds : List PyData} {d : PyData} {Q : Value → Loc → Led → Prop} (rl : RD σ (.list ds) (er l)) (rx : RD σ d (er x)) (hl : PyData.canLayAll0 ds = true) (hx : d.canLay0 = true)
    (hu : c.A.units + 1 + min (PyData.depthAll ds) d.depth < cLine) (h : Q (.bool (!ds.any fun y => PyData.eqv y d)) m σ) : W c (compareOp .NotIn x l) Q E m σ := fun φ s hd hA => by
  obtain ⟨_, r1⟩ := (rl.mono Led.un_sub).reads hA rfl
  obtain ⟨_, r2⟩ := (rx.mono Led.un_sub).reads hA rfl
  exact SeqAt.notIn_list_reads r1 r2 hl hx hu ⟨s.heap, s.toks, m, σ, rfl, hd, hA, h⟩
end
/-! iterators -/
noncomputable def isLIter (l : Addr) (i : Nat) : AO := .like fun o => o.cls = .type "list_iterator" ∧ o.data = .fields #[.ref l, .int i 0]
noncomputable def isTIter (l : Addr) (i : Nat) : AO := .like fun o => o.cls = .type "tuple_iterator" ∧ o.data = .fields #[.ref l, .int i 0]
theorem ne_of_led {σ : Led} {a b : Addr} {o : AO} (h : σ a = some o) (h' : σ b = none) : a ≠ b := fun e => by rw [e, h'] at h; cases h
theorem getElem_er {vs : List Value} {xs : List AV} {i : Nat} {x : AV} (e : vs.map er = xs) (hx : xs[i]? = some x) : ∃ v, vs.toArray[i]? = some v ∧ er v = x := by
  subst e
  rw [List.getElem?_map] at hx
  cases q : vs[i]? with
  | none => rw [q] at hx; cases hx
  | some v => rw [q] at hx; exact ⟨v, by simpa using q, by simpa using hx⟩
section
variable {c : Cx} {E : Value → Loc → Led → Prop} {m : Loc} {σ : Led} {env : Env}
/-- the end of an iterator: it is let go -/
theorem PQ.gone {α : Type} {φ τ : Led} {s : Shared} {h' : Heap} {I : Addr} {o : AO} {x : α} {Q : α → Loc → Led → Prop} (hI : τ I = none) (hd : Dis (τ.set I o) φ) (hA : At c.w c.B ((c.L, m) :: c.fs) s.heap ((τ.set I o).un φ)) (hs : Heap.ExtBut I s.heap h') (h : Q x m τ) :
    PQ c φ s Q x { s with heap := h' } := by
  have hφ : φ I = none := (hd I).resolve_left (by rw [Led.set_self]; intro q; cases q)
  have e1 : (τ.set I o).un φ I = some o := Led.un_left Led.set_self
  have sub : ∀ a ao, τ.un φ a = some ao → (τ.set I o).un φ a = some ao := fun a ao e => by
    have q : a ≠ I := fun q => by rw [q, Led.un_right hI, hφ] at e; cases e
    unfold Led.un at e ⊢
    rw [Led.set_ne q]; exact e
  refine ⟨h', s.toks, m, τ, rfl, fun a => ?_, (hA.sub sub).offExt hs (hA.new _ _ e1) (by rw [Led.un_right hI]; exact hφ) (hA.apart _ _ e1), h⟩
  by_cases q : a = I
  · subst q; exact .inl hI
  · exact (hd a).imp (fun e => by rw [Led.set_ne q] at e; exact e) id
theorem PQ.next {α : Type} {φ τ : Led} {s : Shared} {h' : Heap} {I : Addr} {o o' : AO} {ob : Obj} {x : α} {Q : α → Loc → Led → Prop} (hd : Dis (τ.set I o) φ) (hA : At c.w c.B ((c.L, m) :: c.fs) s.heap ((τ.set I o).un φ)) (hs : Heap.SameBut I s.heap h')
    (ho : h'.get? I = some ob) (k : o'.ok c.w ob) (h : Q x m (τ.set I o')) : PQ c φ s Q x { s with heap := h' } :=
  PQ.upd (tk := s.toks) hd hA Led.set_self hs ho k (by rw [Led.set_set]; exact h)
theorem Iter.list (hh : c.A.handled = none) (I l : Addr) (xs : List AV) : Iter c I xs (fun τ => τ l = some (.list xs)) (isLIter l) where
  item := fun {i x m τ Q E} st hI hx h φ s hd hA => by
    have hne := ne_of_led st hI
    obtain ⟨o, ho, k⟩ := hA.led I _ (Led.un_left Led.set_self)
    obtain ⟨ol, hol, vs, n, rfl, hv⟩ := hA.led l (.list xs) (Led.un_left ((Led.set_ne hne).trans st))
    obtain ⟨v, hv', he⟩ := getElem_er hv hx
    refine wpAny_pyNext_list_item ⟨o, ho, k⟩ ⟨_, hol, rfl, n, rfl⟩ hv' fun h' hit hs => ?_
    obtain ⟨o', ho', k'⟩ := hit
    exact PQ.next (o' := isLIter l (i + 1)) hd hA hs ho' k' (h v he)
  done := fun {m τ Q E} st hI h φ s hd hA => by
    have hne := ne_of_led st hI
    obtain ⟨o, ho, k⟩ := hA.led I _ (Led.un_left Led.set_self)
    obtain ⟨ol, hol, vs, n, rfl, hv⟩ := hA.led l (.list xs) (Led.un_left ((Led.set_ne hne).trans st))
    exact wpAny_pyNext_list_end hh ⟨o, ho, k⟩ ⟨_, hol, rfl, n, rfl⟩ (by simp [← hv]) fun h' he => PQ.gone hI hd hA he h
theorem Iter.tuple (hh : c.A.handled = none) (I l : Addr) (xs : List AV) : Iter c I xs (fun τ => τ l = some (.tuple xs)) (isTIter l) where
  item := fun {i x m τ Q E} st hI hx h φ s hd hA => by
    have hne := ne_of_led st hI
    obtain ⟨o, ho, k⟩ := hA.led I _ (Led.un_left Led.set_self)
    obtain ⟨ol, hol, vs, n, rfl, hv⟩ := hA.led l (.tuple xs) (Led.un_left ((Led.set_ne hne).trans st))
    obtain ⟨v, hv', he⟩ := getElem_er hv hx
    refine wpAny_pyNext_tuple_item ⟨o, ho, k⟩ ⟨_, hol, rfl, n, rfl⟩ hv' fun h' hit hs => ?_
    obtain ⟨o', ho', k'⟩ := hit
    exact PQ.next (o' := isTIter l (i + 1)) hd hA hs ho' k' (h v he)
  done := fun {m τ Q E} st hI h φ s hd hA => by
    have hne := ne_of_led st hI
    obtain ⟨o, ho, k⟩ := hA.led I _ (Led.un_left Led.set_self)
    obtain ⟨ol, hol, vs, n, rfl, hv⟩ := hA.led l (.tuple xs) (Led.un_left ((Led.set_ne hne).trans st))
    exact wpAny_pyNext_tuple_end hh ⟨o, ho, k⟩ ⟨_, hol, rfl, n, rfl⟩ (by simp [← hv]) fun h' he => PQ.gone hI hd hA he h
theorem W_pyIter_list {l : Addr} {xs : List AV} {Q : Value → Loc → Led → Prop} (hl : σ l = some (.list xs)) (h : ∀ I, σ I = none → Q (.ref I) m (σ.set I (isLIter l 0))) : W c (pyIter (.ref l)) Q E m σ := fun φ s hd hA => by
  obtain ⟨ol, hol, vs, n, rfl, hv⟩ := hA.led l _ (Led.un_left hl)
  exact wpAny_pyIter_list ⟨_, hol, rfl, n, rfl⟩ (PQ.new (ao := isLIter l 0) (tk := s.toks) hd hA (fun b o e => Heap.get?_push_of_some _ e) (Heap.get?_push_size _ rfl) ⟨rfl, rfl⟩ (Nat.le_refl _) (h _))
theorem W_pyIter_tuple {l : Addr} {xs : List AV} {Q : Value → Loc → Led → Prop} (hl : σ l = some (.tuple xs)) (h : ∀ I, σ I = none → Q (.ref I) m (σ.set I (isTIter l 0))) : W c (pyIter (.ref l)) Q E m σ := fun φ s hd hA => by
  obtain ⟨ol, hol, vs, n, rfl, hv⟩ := hA.led l _ (Led.un_left hl)
  exact wpAny_pyIter_tuple ⟨_, hol, rfl, n, rfl⟩ (PQ.new (ao := isTIter l 0) (tk := s.toks) hd hA (fun b o e => Heap.get?_push_of_some _ e) (Heap.get?_push_size _ rfl) ⟨rfl, rfl⟩ (Nat.le_refl _) (h _))
/-- for x in a list of the ledger's that the loop lets be -/
theorem W_For_list {target iter : Expr} {body : List Stmt} {pos : Pos} {Q : Flow → Loc → Led → Prop} (ok : Okay c) (hh : c.A.handled = none) (hf : env.frame = some c.f)
    (h : W c (eval iter env) (fun v m σ => ∃ l xs, ∃ Inv : Nat → Loc → Led → Prop, v = .ref l ∧ σ l = some (.list xs) ∧ Inv 0 m σ ∧ (∀ i m τ, Inv i m τ → τ l = some (.list xs)) ∧
      (∀ i x v m τ, xs[i]? = some x → er v = x → Inv i m τ → W c (assign target env v) (fun _ m τ => W c (execs body env) (ForPost Q (Inv (i + 1))) E m τ) E m τ) ∧ (∀ m τ, Inv xs.length m τ → Q .next m τ)) E m σ)
    (hs : ∀ x, foldedSetIterable iter env x = pure x := by intro _; rfl) (ht : ∀ it v, letOwnedTupleGo target it v = pure () := by intro _ _; rfl) : W c (exec (.For target iter body [] pos) env) Q E m σ :=
  W_For ok hf (W_mono h (fun v m σ x => by
    obtain ⟨l, xs, Inv, rfl, hl, h0, hst, turn, fin⟩ := x
    exact W_pyIter_list hl fun I hI => ⟨I, xs, _, _, σ, Inv, rfl, Iter.list hh I l xs, rfl, hI, hst, h0, turn, fin⟩) fun _ _ _ x => x) hs ht
theorem W_For_tuple {target iter : Expr} {body : List Stmt} {pos : Pos} {Q : Flow → Loc → Led → Prop} (ok : Okay c) (hh : c.A.handled = none) (hf : env.frame = some c.f)
    (h : W c (eval iter env) (fun v m σ => ∃ l xs, ∃ Inv : Nat → Loc → Led → Prop, v = .ref l ∧ σ l = some (.tuple xs) ∧ Inv 0 m σ ∧ (∀ i m τ, Inv i m τ → τ l = some (.tuple xs)) ∧
      (∀ i x v m τ, xs[i]? = some x → er v = x → Inv i m τ → W c (assign target env v) (fun _ m τ => W c (execs body env) (ForPost Q (Inv (i + 1))) E m τ) E m τ) ∧ (∀ m τ, Inv xs.length m τ → Q .next m τ)) E m σ)
    (hs : ∀ x, foldedSetIterable iter env x = pure x := by intro _; rfl) (ht : ∀ it v, letOwnedTupleGo target it v = pure () := by intro _ _; rfl) : W c (exec (.For target iter body [] pos) env) Q E m σ :=
  W_For ok hf (W_mono h (fun v m σ x => by
    obtain ⟨l, xs, Inv, rfl, hl, h0, hst, turn, fin⟩ := x
    exact W_pyIter_tuple hl fun I hI => ⟨I, xs, _, _, σ, Inv, rfl, Iter.tuple hh I l xs, rfl, hI, hst, h0, turn, fin⟩) fun _ _ _ x => x) hs ht
theorem W_getMethod_list {l : Addr} {xs : List AV} {name : Str} {id : String} {pl : Sem Bool} {Q : Value × List Value → Loc → Led → Prop} (slot : Slot "list" name id) (hty : typeOf (.builtin id) = pure (.type "method_descriptor")) (hl : σ l = some (.list xs)) (h : Q (.builtin id, [.ref l]) m σ) :
    W c (getMethod (.ref l) name pl) Q E m σ := fun φ s hd hA => by
  obtain ⟨ol, hol, vs, n, rfl, hv⟩ := hA.led l _ (Led.un_left hl)
  exact getMethod_builtin ⟨_, hol, rfl⟩ PySem.F.plainAttrs_list slot hty (fun a e => by cases e; exact ⟨_, hol, rfl⟩) ⟨s.heap, s.toks, m, σ, rfl, hd, hA, h⟩
theorem W_append {l : Addr} {xs : List AV} {v : Value} {Q : Value → Loc → Led → Prop} (hl : σ l = some (.list xs)) (h : Q .none m (σ.set l (.list (xs ++ [er v])))) (hsz : xs.length ≤ sizeLine) : W c (call (.builtin "list.append") [.ref l, v]) Q E m σ := fun φ s hd hA => by
  obtain ⟨ol, hol, vs, n, rfl, hv⟩ := hA.led l _ (Led.un_left hl)
  refine wpAny_list_append_plain ⟨n, hol⟩ (fun h' ⟨n', ho'⟩ hs => PQ.upd (ao := .list (xs ++ [er v])) (tk := s.toks) hd hA hl hs ho' ⟨vs ++ [v], n', ?_, ?_⟩ h) ?_
  · simp
  · simp [hv]
  · rw [← hv] at hsz; simpa using hsz
end
end Mine
end
section
namespace Mine
/-- what holds around every walk in the text: the written part stays, the frames are told, there is room -/
structure Good (K : Params → Frag) (n : Nat) (c : Cx) : Prop where
  X : (K c.w.params).In c.B
  T : ∃ p loose mg mb, TopRead p loose mg mb c.B
  mods : ∃ o, c.B.get? sysModules = some o
  ok : Okay c
  depth : c.A.depth + n < recursionLimit
  units : c.A.units + 10 * n + 200 < cLine
theorem Good.le {K : Params → Frag} {n k : Nat} {c : Cx} (G : Good K n c) (h : k ≤ n) : Good K k c := ⟨G.X, G.T, G.mods, G.ok, by have := G.depth; omega, by have := G.units; omega⟩
theorem Good.into {K : Params → Frag} {n : Nat} {c : Cx} (G : Good K (n + 1) c) {m : Loc} {env : Env} {L : Addr} (hf : env.frame = some L) (hk : env.scope.kind ≠ .module) : Good K n (c.into m env L) :=
  ⟨G.X, G.T, G.mods, G.ok.into hf hk, by have := G.depth; show c.A.depth + 1 + n < _; omega, by have := G.units; show c.A.units + 3 + 10 * n + 200 < _; omega⟩
theorem Good.room {K : Params → Frag} {n : Nat} {c : Cx} (G : Good K n c) : c.A.depth < recursionLimit := by have := G.depth; omega
theorem Good.unit {K : Params → Frag} {n : Nat} {c : Cx} (G : Good K n c) {k : Nat} (h : k ≤ 200) : c.A.units + k < cLine := by have := G.units; omega
section
variable {K : Params → Frag} {n : Nat} {c : Cx} {E : Value → Loc → Led → Prop} {m : Loc} {σ : Led} {env : Env}
theorem W_loadGlobal {x : Str} {Q : Value → Loc → Led → Prop} (h : W c (loadGlobal env x) Q E m σ) (hk : env.scope.kind = .function := by rfl) (hx : env.kindOf x = some .globalImplicit := by rfl) : W c (loadName env x) Q E m σ := fun φ s hd hA => by
  unfold loadName
  simp only [Env.blockKind, hk, hx, ScopeKind.isAnnotationScope, Bool.false_and, Bool.false_eq_true, if_false]
  exact h φ s hd hA
theorem W_global {x : Str} {v : Value} {Q : Value → Loc → Led → Prop} (G : Good K n c) (e : nsIn (K c.w.params) mainGlobals x = some (some v)) (h : Q v m σ) (hg : env.globals = mainGlobals := by rfl) : W c (loadGlobal env x) Q E m σ := fun φ s hd hA => by
  obtain ⟨p, loose, mg, mb, T⟩ := G.T
  exact Calls.loadGlobal_global (hg ▸ T.g.keeps hA.keep) (mg_of G.X T.g e) ⟨s.heap, s.toks, m, σ, rfl, hd, hA, h⟩
theorem W_builtinName {x : Str} {v : Value} {Q : Value → Loc → Led → Prop} (G : Good K n c) (e : nsIn (K c.w.params) mainGlobals x = some none) (hv : bootBuiltins x = some v) (hn : x ≠ "__name__") (h : Q v m σ) (hg : env.globals = mainGlobals := by rfl) (hb : env.builtins = builtinsNs := by rfl) :
    W c (loadGlobal env x) Q E m σ := fun φ s hd hA => by
  obtain ⟨p, loose, mg, mb, T⟩ := G.T
  exact Calls.loadGlobal_builtin (hg ▸ T.g.keeps hA.keep) (mg_none_of G.X T.g e) (hb ▸ T.b.keeps hA.keep) ((T.builtins x hn).trans hv) ⟨s.heap, s.toks, m, σ, rfl, hd, hA, h⟩
/-- a def of the written part, called -/
theorem W_callK {f : Addr} {name qual : Str} {params : Arguments} {body : List Stmt} {scope : Scope} {dV kV doc pm cdv ct oc : Value} {an od : Option Addr} {osl : Array (Option Value)} {vals : List Value} {Q : Value → Loc → Led → Prop} (G : Good K n c)
    (ho : (K c.w.params).lookup f = some ⟨oc, od, .func (fnOf name qual params body scope dV kV doc pm an cdv ct), osl⟩) (hcd : codeIn (K c.w.params) cdv qual = true)
    (h : W c.in1 (bindArgs (fnOf name qual params body scope dV kV doc pm an cdv ct) ⟨vals, []⟩) (Enters c (fnOf name qual params body scope dV kV doc pm an cdv ct) f body Q E) E m σ)
    (hnd : ((cellsFrom 0 scope.names []).map (·.1)).Nodup := by decide) (hco : scope.isCoroutine = false := by rfl) (hgen : scope.isGenerator = false := by rfl) (hk : scope.kind = .function := by rfl) : WC c (.call (.ref f) ⟨vals, []⟩) Q E m σ := by
  obtain ⟨p, loose, mg, mb, T⟩ := G.T
  refine W_callFn (args := ⟨vals, []⟩) G.ok G.room (G.X _ _ ho) rfl T.nolimit (codeRec_of G.X hcd) rfl rfl (fun n => ?_) hco hgen hk h
  have e : ∀ (names : List (Str × NameKind)) (i j : Nat) (a b : List (Str × Addr)), a.map (·.1) = b.map (·.1) → (cellsFrom i names a).map (·.1) = (cellsFrom j names b).map (·.1) := by
    intro names
    induction names with
    | nil => intro i j a b e; exact e
    | cons p r ih =>
      intro i j a b e
      obtain ⟨y, k⟩ := p
      unfold cellsFrom
      split
      · exact ih _ _ _ _ (by simp [e])
      · exact ih _ _ _ _ e
  show ((cellsFrom n scope.names []).map (·.1)).Nodup
  rw [e scope.names n 0 [] [] rfl]; exact hnd
/-- the arguments bound without a look at the heap -/
theorem W_binds {fd : FuncData} {f : Addr} {body : List Stmt} {args : Args} {binds : List (Str × Value)} {Q : Value → Loc → Led → Prop} (hb : bindArgs fd args = pure binds)
    (hkind : (binds.all fun y => fd.scope.names.lookup y.1 == some .local || fd.scope.names.lookup y.1 == some .cell) = true)
    (h : ∀ L, (∀ e, L ≤ e → σ e = none) → W (c.into m (callEnvC fd L f) L) (execs body (callEnvC fd L f)) (fun fl _ σ' => Q (retOf fl) m σ') (fun cls _ σ' => E cls m σ') (eraseM (bindL (callEnvC fd L f).kindOf binds fun _ => none))
      (cellFold (bindC (callEnvC fd L f).kindOf binds fun _ => none) (cellsFrom (L + 1) fd.scope.names []) σ)) :
    W c.in1 (bindArgs fd args) (Enters c fd f body Q E) E m σ := by
  rw [hb]
  exact W_pure ⟨kindsX hkind, h⟩
/-- the frame of a def of the written part -/
noncomputable abbrev envK (qual : Str) (scope : Scope) (L f : Addr) (cdv : Value) : Env := newEnv scope L mainGlobals (cellsFrom (L + 1) scope.names []) (qual ++ ".<locals>.") (some f) cdv none builtinsNs
/-- the names of a new frame -/
noncomputable def locOf (binds : List (Str × Value)) : Loc := binds.foldl (fun m b => m.set b.1 (er b.2)) fun _ => none
theorem bindL_locOf {kindOf : Str → Option NameKind} : ∀ (binds : List (Str × Value)) (m₀ : Str → Option Value) (m₁ : Loc), (∀ x ∈ binds, kindOf x.1 = some .local) → eraseM m₀ = m₁ → eraseM (bindL kindOf binds m₀) = binds.foldl (fun m b => m.set b.1 (er b.2)) m₁
  | [], _, _, _, e => e
  | (n, v) :: r, m₀, m₁, hk, e => by
    unfold bindL
    rw [if_pos (hk _ (.head _)), List.foldl_cons]
    refine bindL_locOf r _ _ (fun x hx => hk x (.tail _ hx)) ?_
    subst e
    funext y; unfold eraseM Loc.set
    by_cases q : y = n <;> simp [q]
/-- a def of the written part, without cells, called by values that are bound one by one -/
theorem WC_fn {f : Addr} {name qual : Str} {params : Arguments} {body : List Stmt} {scope : Scope} {dV kV doc pm cdv ct oc : Value} {an od : Option Addr} {osl : Array (Option Value)} {vals : List Value} {Q : Value → Loc → Led → Prop} (binds : List (Str × Value)) (G : Good K (n + 1) c)
    (ho : (K c.w.params).lookup f = some ⟨oc, od, .func (fnOf name qual params body scope dV kV doc pm an cdv ct), osl⟩) (hcd : codeIn (K c.w.params) cdv qual = true)
    (hb : bindArgs (fnOf name qual params body scope dV kV doc pm an cdv ct) ⟨vals, []⟩ = pure binds)
    (hkind : (binds.all fun y => scope.names.lookup y.1 == some .local) = true)
    (h : ∀ L, (∀ e, L ≤ e → σ e = none) → Good K n (c.into m (envK qual scope L f cdv) L) → W (c.into m (envK qual scope L f cdv) L) (execs body (envK qual scope L f cdv)) (fun fl _ σ' => Q (retOf fl) m σ') (fun cls _ σ' => E cls m σ') (locOf binds) σ)
    (hnc : ∀ n, cellsFrom n scope.names [] = [] := by intro _; rfl) (hco : scope.isCoroutine = false := by rfl) (hgen : scope.isGenerator = false := by rfl) (hk : scope.kind = .function := by rfl) : WC c (.call (.ref f) ⟨vals, []⟩) Q E m σ := by
  refine W_callK G ho hcd (W_binds hb ?_ fun L hL => ?_) (by rw [hnc]; exact List.nodup_nil) hco hgen hk
  · refine List.all_eq_true.mpr fun x hx => ?_
    rw [List.all_eq_true.mp hkind x hx]; rfl
  · have e := h L hL (G.into rfl (by show scope.kind ≠ _; rw [hk]; decide))
    have e2 : cellFold (bindC (envK qual scope L f cdv).kindOf binds fun _ => none) (cellsFrom (L + 1) scope.names []) σ = σ := by rw [hnc]; rfl
    have e3 : eraseM (bindL (envK qual scope L f cdv).kindOf binds fun _ => none) = locOf binds := bindL_locOf binds _ _ (fun x hx => by have := List.all_eq_true.mp hkind x hx; exact beq_iff_eq.mp this) rfl
    rw [← e2, ← e3] at e
    exact e
/-- a def of the written part, without cells, called by values that are bound one by one -/
theorem W_fn {f : Addr} {name qual : Str} {params : Arguments} {body : List Stmt} {scope : Scope} {dV kV doc pm cdv ct oc : Value} {an od : Option Addr} {osl : Array (Option Value)} {vals : List Value} {Q : Value → Loc → Led → Prop} (binds : List (Str × Value)) (G : Good K (n + 1) c)
    (ho : (K c.w.params).lookup f = some ⟨oc, od, .func (fnOf name qual params body scope dV kV doc pm an cdv ct), osl⟩) (hcd : codeIn (K c.w.params) cdv qual = true)
    (hb : bindArgs (fnOf name qual params body scope dV kV doc pm an cdv ct) ⟨vals, []⟩ = pure binds)
    (hkind : (binds.all fun y => scope.names.lookup y.1 == some .local) = true)
    (h : ∀ L, (∀ e, L ≤ e → σ e = none) → Good K n (c.into m (envK qual scope L f cdv) L) → W (c.into m (envK qual scope L f cdv) L) (execs body (envK qual scope L f cdv)) (fun fl _ σ' => Q (retOf fl) m σ') (fun cls _ σ' => E cls m σ') (locOf binds) σ)
    (hnc : ∀ n, cellsFrom n scope.names [] = [] := by intro _; rfl) (hco : scope.isCoroutine = false := by rfl) (hgen : scope.isGenerator = false := by rfl) (hk : scope.kind = .function := by rfl) : W c (call (.ref f) vals) Q E m σ :=
  W_ofCode (WC_fn binds G ho hcd hb hkind h hnc hco hgen hk)
/-- the same with cells -/
theorem W_fnC {f : Addr} {name qual : Str} {params : Arguments} {body : List Stmt} {scope : Scope} {dV kV doc pm cdv ct oc : Value} {an od : Option Addr} {osl : Array (Option Value)} {vals : List Value} {Q : Value → Loc → Led → Prop} (binds : List (Str × Value)) (G : Good K (n + 1) c)
    (ho : (K c.w.params).lookup f = some ⟨oc, od, .func (fnOf name qual params body scope dV kV doc pm an cdv ct), osl⟩) (hcd : codeIn (K c.w.params) cdv qual = true)
    (hb : bindArgs (fnOf name qual params body scope dV kV doc pm an cdv ct) ⟨vals, []⟩ = pure binds)
    (hkind : (binds.all fun y => scope.names.lookup y.1 == some .local || scope.names.lookup y.1 == some .cell) = true)
    (h : ∀ L, (∀ e, L ≤ e → σ e = none) → Good K n (c.into m (envK qual scope L f cdv) L) → W (c.into m (envK qual scope L f cdv) L) (execs body (envK qual scope L f cdv)) (fun fl _ σ' => Q (retOf fl) m σ') (fun cls _ σ' => E cls m σ') (eraseM (bindL (envK qual scope L f cdv).kindOf binds fun _ => none))
      (cellFold (bindC (envK qual scope L f cdv).kindOf binds fun _ => none) (cellsFrom (L + 1) scope.names []) σ))
    (hnd : ((cellsFrom 0 scope.names []).map (·.1)).Nodup := by decide) (hco : scope.isCoroutine = false := by rfl) (hgen : scope.isGenerator = false := by rfl) (hk : scope.kind = .function := by rfl) : W c (call (.ref f) vals) Q E m σ :=
  W_ofCode (W_callK G ho hcd (W_binds hb hkind fun L hL => h L hL (G.into rfl (by show scope.kind ≠ _; rw [hk]; decide))) hnd hco hgen hk)
end
end Mine
end
section
namespace Mine
/-! what the two functions of typing compute, of items with what they read as -/
noncomputable def dedStep (acc : List (PyData × AV)) (p : PyData × AV) : List (PyData × AV) := if acc.any (fun q => PyData.eqv q.1 p.1) then acc else acc ++ [p]
noncomputable def ded (l : List (PyData × AV)) : List (PyData × AV) := l.foldl dedStep []
theorem ded_take_succ {l : List (PyData × AV)} {i : Nat} {p : PyData × AV} (h : l[i]? = some p) : ded (l.take (i + 1)) = dedStep (ded (l.take i)) p := by
  unfold ded; rw [List.take_add_one, h]; simp
theorem dedStep_length (acc : List (PyData × AV)) (p : PyData × AV) : (dedStep acc p).length ≤ acc.length + 1 := by unfold dedStep; split <;> simp
theorem foldl_ded_length : ∀ (l acc : List (PyData × AV)), (l.foldl dedStep acc).length ≤ acc.length + l.length
  | [], acc => by simp
  | p :: r, acc => by
    have := foldl_ded_length r (dedStep acc p)
    have := dedStep_length acc p
    simp only [List.foldl_cons, List.length_cons]; omega
theorem ded_length (l : List (PyData × AV)) : (ded l).length ≤ l.length := by have := foldl_ded_length l []; simpa [ded] using this
theorem foldl_ded_mem : ∀ (l acc : List (PyData × AV)) (q : PyData × AV), q ∈ l.foldl dedStep acc → q ∈ acc ∨ q ∈ l
  | [], _, _, h => .inl h
  | p :: r, acc, q, h => by
    rcases foldl_ded_mem r _ q h with e | e
    · unfold dedStep at e
      split at e
      · exact .inl e
      · rcases List.mem_append.mp e with e | e
        · exact .inl e
        · rw [List.mem_singleton.mp e]; exact .inr (.head _)
    · exact .inr (.tail _ e)
theorem ded_mem {l : List (PyData × AV)} {q : PyData × AV} (h : q ∈ ded l) : q ∈ l := by
  rcases foldl_ded_mem l [] q h with e | e
  · cases e
  · exact e
/-- items that read as their data -/
noncomputable def Rds (σ : Led) (l : List (PyData × AV)) : Prop := ∀ q ∈ l, RD σ q.1 q.2 ∧ q.1.canLay0 = true ∧ q.1.depth ≤ 50
theorem Rds.mono {σ σ' : Led} {l : List (PyData × AV)} (h : Rds σ l) (hs : ∀ a o, σ a = some o → σ' a = some o) : Rds σ' l := fun q hq => ⟨(h q hq).1.mono hs, (h q hq).2⟩
theorem Rds.sub {σ : Led} {l l' : List (PyData × AV)} (h : Rds σ l) (hs : ∀ q ∈ l', q ∈ l) : Rds σ l' := fun q hq => h q (hs q hq)
theorem Rds.rds {σ : Led} : ∀ {l : List (PyData × AV)}, Rds σ l → RDs σ (l.map (·.1)) (l.map (·.2))
  | [], _ => rfl
  | p :: r, h => ⟨p.2, r.map (·.2), rfl, (h p (.head _)).1, Rds.rds fun q hq => h q (.tail _ hq)⟩
theorem Rds.lay {σ : Led} : ∀ {l : List (PyData × AV)}, Rds σ l → PyData.canLayAll0 (l.map (·.1)) = true
  | [], _ => rfl
  | p :: r, h => by
    show (p.1.canLay0 && PyData.canLayAll0 (r.map (·.1))) = true
    rw [(h p (.head _)).2.1, Rds.lay fun q hq => h q (.tail _ hq)]; rfl
theorem Led.sub_set {σ : Led} {a : Addr} {o : AO} (h : σ a = none) : ∀ b o', σ b = some o' → σ.set a o b = some o' := fun _ _ e => Led.set_old e h
end Mine
end
section
namespace Mine
noncomputable def Cx.mark (c : Cx) (e : Value) : Cx := { c with A := c.A.mark (some e) }
theorem Okay.mark {c : Cx} (ok : Okay c) (e : Value) : Okay (c.mark e) := ok.stack |> fun h => ⟨h⟩
theorem Good.mark {K : Params → Frag} {n : Nat} {c : Cx} (G : Good K n c) (e : Value) : Good K n (c.mark e) := ⟨G.X, G.T, G.mods, G.ok.mark e, G.depth, G.units⟩
/-- an exception of class cls meets the clause's value tv -/
noncomputable def Meets1 (c : Cx) (cls tv : Value) : Prop :=
  ∀ (A : Around) (e : Addr) (o : Obj) (s : Shared) (Q : Bool → Shared → Prop) (E : Value → Shared → Prop), (∀ b o, c.B.get? b = some o → s.heap.get? b = some o) → s.heap.get? e = some o → o.cls = cls → (∀ cd, o.data ≠ .cls cd) → Q true s → wpAny (model c.prog c.w) A (excMatches (.ref e) tv) Q E s
theorem meets_builtin {c : Cx} {X T : String} (hexc : isSubtype (.type T) (.type "BaseException") = pure true) (hnt : isSubtype (.type ((Manifest.find? T).elim "type" fun x => x.metatype)) (.type "tuple") = pure false)
    (hsub : isSubtype (.type X) (.type T) = pure true) : Meets1 c (.type X) (.type T) := fun _ _ _ _ _ _ _ ho hc _ hq => wpAny_excMatches_type ⟨_, ho, hc⟩ hexc hnt hsub hq
theorem ExcTr.framed {w : World} {B h : Heap} {fs : List (Addr × Loc)} {σ φ : Led} {e cls mk : Value} (hd : Dis σ φ) (hA : At w B fs h (σ.un φ)) (x : ExcTr B fs h (σ.un φ) e cls mk) :
    ∃ a φ', e = .ref a ∧ Dis σ φ' ∧ At w B fs h (σ.un φ') ∧ (∀ b o, φ b = some o → φ' b = some o) ∧
      ∀ (σ' : Led) (m : List (Addr × Loc)) (h' : Heap), Dis σ' φ' → At w B m h' (σ'.un φ') → Dis σ' φ ∧ At w B m h' (σ'.un φ) ∧ ∃ T oa oT vs ts, h'.get? a = some oa ∧ oa.cls = cls ∧ oa.data = .fields vs ∧ vs[1]? = some (.ref T) ∧ T ≠ a ∧ h'.get? T = some oT ∧ oT.data = .fields ts ∧ ts[3]? = some mk ∧ vs[2]? = some .none ∧
        B.get? a = none ∧ B.get? T = none ∧ (∀ p ∈ m, a ≠ p.1) ∧ (∀ p ∈ m, T ≠ p.1) ∧ σ'.un φ a = none ∧ σ'.un φ T = none := by
  obtain ⟨a, o, vs, T, oT, ts, rfl, h2, h3, h4, h5, h6, h7, h8, h9, h10, h11, h12, h13, h14, h15, h16⟩ := x
  have ea := Led.un_none h5
  have eT := Led.un_none h12
  let oA : AO := .like fun o => o.cls = cls ∧ ∃ vs, o.data = .fields vs ∧ vs[1]? = some (.ref T) ∧ vs[2]? = some .none
  let oB : AO := .like fun o => ∃ ts, o.data = .fields ts ∧ ts[3]? = some mk
  let φ' : Led := (φ.set a oA).set T oB
  have pT : φ' T = some oB := Led.set_self
  have pa : φ' a = some oA := (Led.set_ne (Ne.symm h9)).trans Led.set_self
  have po : ∀ b, b ≠ a → b ≠ T → φ' b = φ b := fun b q r => (Led.set_ne r).trans (Led.set_ne q)
  have sub : ∀ b o, φ b = some o → φ' b = some o := fun b o e => by
    rw [po b (fun q => by rw [q, ea.2] at e; cases e) (fun q => by rw [q, eT.2] at e; cases e)]; exact e
  refine ⟨a, φ', rfl, fun b => ?_, ?_, sub, fun σ' m h' hd' hA' => ?_⟩
  · by_cases q : b = a
    · exact .inl (q ▸ ea.1)
    · by_cases r : b = T
      · exact .inl (r ▸ eT.1)
      · rw [po b q r]; exact hd b
  · have un : ∀ b ao, σ.un φ' b = some ao → (b = a ∧ ao = oA) ∨ (b = T ∧ ao = oB) ∨ σ.un φ b = some ao := fun b ao e => by
      by_cases q : b = a
      · subst q; rw [Led.un_right ea.1, pa] at e; cases e; exact .inl ⟨rfl, rfl⟩
      · by_cases r : b = T
        · subst r; rw [Led.un_right eT.1, pT] at e; cases e; exact .inr (.inl ⟨rfl, rfl⟩)
        · unfold Led.un at e ⊢; rw [po b q r] at e; exact .inr (.inr e)
    refine ⟨hA.keep, hA.frames, hA.above, hA.nodup, fun b ao e => ?_, fun b ao e => ?_, fun b ao e p hp => ?_⟩
    · rcases un b ao e with ⟨rfl, rfl⟩ | ⟨rfl, rfl⟩ | e
      · exact ⟨o, h2, h3, vs, h4, h8, h16⟩
      · exact ⟨oT, h10, ts, h11, h15⟩
      · exact hA.led b ao e
    · rcases un b ao e with ⟨rfl, rfl⟩ | ⟨rfl, rfl⟩ | e
      · exact h6
      · exact h13
      · exact hA.new b ao e
    · rcases un b ao e with ⟨rfl, rfl⟩ | ⟨rfl, rfl⟩ | e
      · exact h7 p hp
      · exact h14 p hp
      · exact hA.apart b ao e p hp
  · have sa : σ' a = none := (hd' a).resolve_right (by rw [pa]; intro q; cases q)
    have sT : σ' T = none := (hd' T).resolve_right (by rw [pT]; intro q; cases q)
    have la : σ'.un φ' a = some oA := (Led.un_right sa).trans pa
    have lT : σ'.un φ' T = some oB := (Led.un_right sT).trans pT
    obtain ⟨oa, g1, g2, vs', g3, g4, g4'⟩ := hA'.led a _ la
    obtain ⟨ob, k1, ts', k2, k3⟩ := hA'.led T _ lT
    refine ⟨fun b => ?_, hA'.sub fun b ao e => ?_, T, oa, ob, vs', ts', g1, g2, g3, g4, h9, k1, k2, k3, g4', h6, h13, hA'.apart a _ la, hA'.apart T _ lT, (Led.un_right sa).trans ea.2, (Led.un_right sT).trans eT.2⟩
    · rcases hd' b with e | e
      · exact .inl e
      · right
        cases q : φ b with
        | none => rfl
        | some ao => rw [sub b ao q] at e; cases e
    · cases q : σ' b with
      | some ao' => rw [Led.un_left q] at e; exact (Led.un_left q).trans e
      | none => rw [Led.un_right q] at e; rw [Led.un_right q]; exact sub b ao e
section
variable {c : Cx} {E : Value → Loc → Led → Prop} {m : Loc} {σ : Led} {env : Env}
theorem passesAt {φ : Led} {s : Shared} {e : Value} (ok : Okay c) (hf : env.frame = some c.f) : ∀ x s', PE c φ s E x s' → notedBy (model c.prog c.w) (c.mark e).A env (cameBackBy (model c.prog c.w) c.A env (PE c φ s E)) x s' := by
  rintro x s' ⟨h', tk, m', σ', cls, rfl, hd, hA, hx, hE⟩
  unfold notedBy
  refine noteFrame_at (c := c.mark e) (ok.mark e) hf hA hx fun h₁ hA₁ hx₁ => ?_
  unfold cameBackBy
  obtain ⟨a, o, vs, T, oT, ts, rfl, h2, h3, h4, h5, h6, h7, h8, h9, h10, h11, h12, h13, h14, h15, h16⟩ := id hx₁
  refine wpAny_bind (wpAny_field h2 h4 h8 ?_)
  rw [if_neg (by simp)]
  refine setFlight_tr hA₁ hx₁ fun h₂ hA₂ hx₂ => ?_
  refine ⟨h₂, tk, m', σ', cls, rfl, hd, hA₂, hx₂.exc (.inr ?_), hE⟩
  rw [hf]; rfl
/-- try with one clause, without a name, that takes all that is raised -/
theorem W_Try {body : List Stmt} {b₀ : Stmt} {suite : List Stmt} {t : Expr} {pos pos' : Pos} {Q : Flow → Loc → Led → Prop} (ok : Okay c) (hf : env.frame = some c.f)
    (h : W c (execs body env) Q (fun cls m σ => ∀ e, W (c.mark (.ref e)) (eval t env) (fun tv m' σ' => Meets1 c cls tv ∧ W (c.mark (.ref e)) (execs (b₀ :: suite) env) Q E m' σ') (fun _ _ _ => False) m σ) m σ) :
    W c (exec (.Try body [.ExceptHandler (some t) none (b₀ :: suite) pos'] [] [] pos) env) Q E m σ := fun φ s hd hA => by
  refine wpAny_Try_except (wpAny_mono (h φ s hd hA) (fun f s₁ x => ?_) fun e s₁ x => ?_)
  · cases f <;> first | exact wpAny_execs_nil x | exact x
  · obtain ⟨h₁, tk₁, m₁, σ₁, cls, rfl, hd₁, hA₁, hx₁, hW⟩ := x
    refine noteFrame_at ok hf hA₁ hx₁ fun h₂ hA₂ hx₂ => ?_
    refine setFlight_tr hA₂ hx₂ fun h₃ hA₃ hx₃ => ?_
    obtain ⟨a, φ', rfl, hdφ, hAφ, subφ, back⟩ := hx₃.framed hd₁ hA₃
    refine wpAny_handleBy_cons (codeAny_handlers_test (wpAny_mono (hW a φ' _ hdφ hAφ) (fun tv s₄ hz => ?_) fun x s₄ hz => by obtain ⟨_, _, _, _, _, _, _, _, _, q⟩ := hz; exact q.elim)) (by intro q; cases q)
    obtain ⟨h₄, tk₄, m₄, σ₄, rfl, hd₄, hA₄, hmeet, hsuite⟩ := hz
    obtain ⟨hd₄', hA₄', T, oa, oT, vs, ts, g1, g2, g3, g4, g5, g6, g7, g8, g16, g9, g10, g11, g12, g13, g14⟩ := back σ₄ _ h₄ hd₄ hA₄
    refine hmeet _ a oa _ _ _ hA₄.keep g1 g2 (fun cd q => by rw [g3] at q; cases q) ?_
    show codeAny _ _ _ _ _
    have hx₄ : ExcTr c.B ((c.L, m₄) :: c.fs) h₄ (σ₄.un φ) (.ref a) cls .none := ⟨a, oa, vs, T, oT, ts, rfl, g1, g2, g3, g13, g9, g11, g4, g5, g6, g7, g14, g10, g12, g8, g16⟩
    refine codeAny_handlers_suite (setFlight_tr hA₄' hx₄ fun h₅ hA₅ hx₅ => ?_)
    obtain ⟨a', φ'', e', hdφ', hAφ', subφ', back'⟩ := hx₅.framed hd₄' hA₅
    refine wpAny_mono (hsuite φ'' _ hdφ' hAφ') (fun f s₆ hz => ?_) fun x s₆ hz => ?_
    · obtain ⟨h₆, tk₆, m₆, σ₆, rfl, hd₆, hA₆, hq⟩ := hz
      obtain ⟨hd₆', hA₆', _⟩ := back' σ₆ _ h₆ hd₆ hA₆
      exact ⟨h₆, tk₆, m₆, σ₆, rfl, hd₆', hA₆', hq⟩
    · refine passesAt ok hf x s₆ ?_
      obtain ⟨h₆, tk₆, m₆, σ₆, cls₆, rfl, hd₆, hA₆, hx₆, hq⟩ := hz
      obtain ⟨hd₆', hA₆', _⟩ := back' σ₆ _ h₆ hd₆ hA₆
      refine ⟨h₆, tk₆, m₆, σ₆, cls₆, rfl, hd₆', hA₆', hx₆.sub fun b o e => ?_, hq⟩
      cases q : σ₆ b with
      | some ao' => rw [Led.un_left q] at e; exact (Led.un_left q).trans e
      | none => rw [Led.un_right q] at e; rw [Led.un_right q]; exact subφ' b o e
/-- an exception of a built-in class, newly made, flies -/
theorem PE.new {φ : Led} {s : Shared} {h' : Heap} {e : Addr} {X : String} {tk : Nat} (hd : Dis σ φ) (hA : At c.w c.B ((c.L, m) :: c.fs) s.heap (σ.un φ)) (hn : Heap.NewExc s.heap h' e X) (h : E (.type X) m σ) : PE c φ s E (.ref e) { s with heap := h', toks := tk } := by
  obtain ⟨ob, t, ho, hc, hdat⟩ := hn.there
  have hA' := hA.keeps hn.keeps
  have nl : σ.un φ e = none := by
    cases q : σ.un φ e with
    | none => rfl
    | some ao => obtain ⟨o, ho', _⟩ := hA.led e ao q; rw [hn.new] at ho'; cases ho'
  have nf : ∀ p ∈ (c.L, m) :: c.fs, e ≠ p.1 := fun p hp q => by
    obtain ⟨m', ⟨o, _, _, ho', _⟩, _⟩ := hA.frames p hp
    rw [← q, hn.new] at ho'; cases ho'
  refine ⟨h', tk, m, σ, .type X, rfl, hd, hA', ⟨e, ob, _, rfl, ho, hc, hdat, nl, ?_, nf, .inl rfl, rfl⟩, h⟩
  cases q : c.B.get? e with
  | none => rfl
  | some o => have := hA.keep _ _ q; rw [hn.new] at this; cases this
end
end Mine
end
section
namespace Mine
open PySem.MeetsSeq PySem.AutoSeq1 PySem.SeqAt
/-! list.remove, the items compared as they read -/
theorem remove_at (l : Addr) (items : Array Value) (n : Nat) (x : Value) (e : Value → Bool) (j : Nat) (hj : j < items.size) (hit : e items[j] = true) (hs1 : items.size ≤ sizeLine) (k : Nat) :
    ∀ i : Nat, j - i = k → i ≤ j → (∀ m (hm : m < items.size), i ≤ m → m < j → e items[m] = false) → Meets (Builtin.«list.remove.loop» ⟨[.ref l, x, rawInt i], []⟩)
      (fun A R s => s.heap.get? l = some { cls := .type "list", dict := none, data := .seq items n, slots := #[] } ∧ (∀ y, y ∈ items → EqAt A.in1 s y x (e y)) ∧ R (.ok (.ret .none)) { s with heap := s.heap.update l (Obj.mapSeq fun xs => xs.eraseIdxIfInBounds j) }) := by
  induction k with
  | zero =>
    intro i hk hij hno prog w A R s h
    obtain ⟨hp, g, d, tk, os⟩ := s; obtain ⟨hl, he, h⟩ := h
    obtain rfl : i = j := by omega
    wp_walk using wpAny_loadPart' hl
    have hi : items[((i : Nat) : Int).toNat]? = some items[i] := by simp [hj]
    rw [hi]
    refine wpAny_bind (he _ (Array.getElem_mem hj) prog w _ _ ?_)
    rw [hit]
    have hz' : (items.eraseIdxIfInBounds i).size ≤ sizeLine + 1 := Nat.le_trans (size_erased items _) (Nat.le_succ_of_le hs1)
    wp_walk using (wpAny_updateSeq hl rfl (hz := hs1) (_hz' := hz')), wpAny_loadPart' hl
    simpa using h
  | succ k ih =>
    intro i hk hij hno prog w A R s h
    obtain ⟨hp, g, d, tk, os⟩ := s; obtain ⟨hl, he, h⟩ := h
    have hlt : i < items.size := by omega
    wp_walk using wpAny_loadPart' hl
    have hi : items[((i : Nat) : Int).toNat]? = some items[i] := by simp [hlt]
    have hc : ((i : Int) + 1) = ((i + 1 : Nat) : Int) := by push_cast; rfl
    rw [hi]
    refine wpAny_bind (he _ (Array.getElem_mem hlt) prog w _ _ ?_)
    rw [hno i hlt (Nat.le_refl _) (by omega)]
    wp_walk
    rw [hc]
    exact ⟨plainId_quiet plain_remove_loop _, codeAny_builtin entry_remove_loop (by
      rw [Around.under_plainId plain_remove_loop _]
      exact ih (i + 1) (by omega) (by omega) (fun m hm h1 h2 => hno m hm (by omega) h2) prog w A R _ ⟨hl, he, h⟩)⟩
theorem remove_none (l : Addr) (items : Array Value) (n : Nat) (x : Value) (e : Value → Bool) (hno : ∀ m (hm : m < items.size), e items[m] = false) (k : Nat) :
    ∀ i : Nat, items.size - i = k → Meets (Builtin.«list.remove.loop» ⟨[.ref l, x, rawInt i], []⟩)
      (fun A R s => s.heap.get? l = some { cls := .type "list", dict := none, data := .seq items n, slots := #[] } ∧ (∀ y, y ∈ items → EqAt A.in1 s y x (e y)) ∧ raisesNew "ValueError" A R s) := by
  induction k with
  | zero =>
    intro i hk prog w A R s h
    obtain ⟨hp, g, d, tk, os⟩ := s; obtain ⟨hl, he, h⟩ := h
    wp_walk using wpAny_loadPart' hl
    have hi : items[((i : Nat) : Int).toNat]? = none := by simp; omega
    rw [hi]
    wp_walk
    exact_raiseError plainExc_ValueError h.1 h.2
  | succ k ih =>
    intro i hk prog w A R s h
    obtain ⟨hp, g, d, tk, os⟩ := s; obtain ⟨hl, he, h⟩ := h
    have hlt : i < items.size := by omega
    wp_walk using wpAny_loadPart' hl
    have hi : items[((i : Nat) : Int).toNat]? = some items[i] := by simp [hlt]
    have hc : ((i : Int) + 1) = ((i + 1 : Nat) : Int) := by push_cast; rfl
    rw [hi]
    refine wpAny_bind (he _ (Array.getElem_mem hlt) prog w _ _ ?_)
    rw [hno i hlt]
    wp_walk
    rw [hc]
    exact ⟨plainId_quiet plain_remove_loop _, codeAny_builtin entry_remove_loop (by
      rw [Around.under_plainId plain_remove_loop _]
      exact ih (i + 1) (by omega) prog w A R _ ⟨hl, he, h⟩)⟩
theorem list_removeAt (l : Addr) (items : Array Value) (n : Nat) (x : Value) (e : Value → Bool) (j : Nat) (hj : j < items.size) (hit : e items[j] = true) (hno : ∀ m (hm : m < items.size), m < j → e items[m] = false) (hs1 : items.size ≤ sizeLine) :
    Meets (Builtin.«list.remove» ⟨[.ref l, x], []⟩)
      (fun A R s => s.heap.get? l = some { cls := .type "list", dict := none, data := .seq items n, slots := #[] } ∧ (∀ y, y ∈ items → EqAt A.in1 s y x (e y)) ∧ R (.ok (.ret .none)) { s with heap := s.heap.update l (Obj.mapSeq fun xs => xs.eraseIdxIfInBounds j) }) := by
  intro prog w A R s h
  obtain ⟨hp, g, d, tk, os⟩ := s; obtain ⟨hl, he, h⟩ := h
  wp_walk using wpAny_loadPart' hl
  exact ⟨plainId_quiet plain_remove_loop _, codeAny_builtin entry_remove_loop (by
    rw [Around.under_plainId plain_remove_loop _]
    exact remove_at l items n x e j hj hit hs1 _ 0 rfl (Nat.zero_le _) (fun m hm _ h2 => hno m hm h2) prog w A R _ ⟨hl, he, h⟩)⟩
theorem list_removeNone (l : Addr) (items : Array Value) (n : Nat) (x : Value) (e : Value → Bool) (hno : ∀ m (hm : m < items.size), e items[m] = false) :
    Meets (Builtin.«list.remove» ⟨[.ref l, x], []⟩)
      (fun A R s => s.heap.get? l = some { cls := .type "list", dict := none, data := .seq items n, slots := #[] } ∧ (∀ y, y ∈ items → EqAt A.in1 s y x (e y)) ∧ raisesNew "ValueError" A R s) := by
  intro prog w A R s h
  obtain ⟨hp, g, d, tk, os⟩ := s; obtain ⟨hl, he, h⟩ := h
  wp_walk using wpAny_loadPart' hl
  exact ⟨plainId_quiet plain_remove_loop _, codeAny_builtin entry_remove_loop (by
    rw [Around.under_plainId plain_remove_loop _]
    exact remove_none l items n x e hno _ 0 rfl prog w A R _ ⟨hl, he, h⟩)⟩
theorem mapSeq_list (f : Array Value → Array Value) (a : Array Value) (n : Nat) : ∃ n', Obj.mapSeq f ({ cls := .type "list", data := .seq a n } : Obj) = { cls := .type "list", data := .seq (f a) n' } := ⟨_, rfl⟩
theorem map_eraseIdx {α β : Type} (f : α → β) : ∀ (l : List α) (i : Nat), (l.eraseIdx i).map f = (l.map f).eraseIdx i
  | [], _ => rfl
  | _ :: _, 0 => rfl
  | a :: l, i + 1 => by show f a :: (l.eraseIdx i).map f = f a :: (l.map f).eraseIdx i; rw [map_eraseIdx f l i]
/-- the first item that equals d taken out -/
noncomputable def remD (d : PyData) : List (PyData × AV) → Option (List (PyData × AV))
  | [] => none
  | p :: r => if PyData.eqv p.1 d then some r else (remD d r).map (p :: ·)
theorem remD_none {d : PyData} {l : List (PyData × AV)} (h : remD d l = none) : ∀ p ∈ l, PyData.eqv p.1 d = false := by
  induction l with
  | nil => exact fun p hp => (nomatch hp)
  | cons p r ih =>
    intro q hq
    unfold remD at h
    split at h
    · cases h
    · rename_i hp
      have h' : remD d r = none := by cases e : remD d r with | none => rfl | some x => rw [e] at h; cases h
      rcases List.mem_cons.mp hq with rfl | hq
      · exact Bool.not_eq_true _ ▸ hp
      · exact ih h' q hq
theorem remD_some {d : PyData} : ∀ {l r : List (PyData × AV)}, remD d l = some r → ∃ j, ∃ hj : j < l.length, PyData.eqv (l[j]).1 d = true ∧ (∀ i (hi : i < l.length), i < j → PyData.eqv (l[i]).1 d = false) ∧ r = l.eraseIdx j
  | p :: l, r, h => by
    unfold remD at h
    split at h
    · rename_i hp; cases h
      exact ⟨0, Nat.succ_pos _, hp, fun i _ hi => absurd hi (Nat.not_lt_zero _), rfl⟩
    · rename_i hp
      cases e : remD d l with
      | none => rw [e] at h; cases h
      | some x =>
        rw [e] at h; cases h
        obtain ⟨j, hj, h1, h2, h3⟩ := remD_some e
        refine ⟨j + 1, Nat.succ_lt_succ hj, h1, fun i hi hij => ?_, by rw [h3]; rfl⟩
        cases i with
        | zero => exact Bool.not_eq_true _ ▸ hp
        | succ i => exact h2 i (Nat.lt_of_succ_lt_succ hi) (Nat.lt_of_succ_lt_succ hij)
theorem Rds.readsAll {w : World} {B h : Heap} {fs : List (Addr × Loc)} {σ : Led} (hA : At w B fs h σ) {l : List (PyData × AV)} (x : Rds σ l) {vs : List Value} (e : vs.map er = l.map (·.2)) : ∃ as, ReadsAll h vs (l.map (·.1)) as := x.rds.reads hA e
theorem Rds.depth {σ : Led} : ∀ {l : List (PyData × AV)}, Rds σ l → PyData.depthAll (l.map (·.1)) ≤ 50
  | [], _ => Nat.zero_le _
  | p :: r, h => Nat.max_le.mpr ⟨(h p (.head _)).2.2, Rds.depth fun q hq => h q (.tail _ hq)⟩
section
variable {K : Params → Frag} {n : Nat} {c : Cx} {E : Value → Loc → Led → Prop} {m : Loc} {σ : Led} {env : Env}
theorem W_remove {l : Addr} {ys : List (PyData × AV)} {x : Value} {d : PyData} {Q : Value → Loc → Led → Prop} (hu : c.A.units + 60 < cLine) (hh : c.A.handled = none) (hl : σ l = some (.list (ys.map (·.2)))) (hy : Rds σ ys) (hx : RD σ d (er x)) (hc : d.canLay0 = true) (hd : d.depth ≤ 50) (hz : ys.length ≤ sizeLine)
    (h : match remD d ys with | some r => Q .none m (σ.set l (.list (r.map (·.2)))) | none => E (.type "ValueError") m σ) : W c (call (.builtin "list.remove") [.ref l, x]) Q E m σ := fun φ s hd' hA => by
  obtain ⟨ol, hol, vs, n, rfl, hv⟩ := hA.led l _ (Led.un_left hl)
  obtain ⟨as, ra⟩ := (hy.mono Led.un_sub).readsAll hA hv
  obtain ⟨bs, rx⟩ := (hx.mono Led.un_sub).reads hA rfl
  have hdep : PyData.depthAll (ys.map (·.1)) ≤ 50 := hy.depth
  have he := SeqAt.items_eqAt (A := c.A) (vs := vs.toArray) ra rx hy.lay hc (by omega)
  have rm := SeqAt.readsAll_map _ _ _ hy.lay ra
  have lenv : vs.length = ys.length := by have := congrArg List.length hv; simpa using this
  have at_ : ∀ i (h1 : i < vs.length) (h2 : i < ys.length), PyData.eqv (SeqAt.readOf s.heap vs[i]) d = PyData.eqv (ys[i]).1 d := fun i h1 h2 => by
    have : (vs.map (SeqAt.readOf s.heap))[i]? = (ys.map (·.1))[i]? := by rw [rm]
    rw [List.getElem?_map, List.getElem?_map, List.getElem?_eq_getElem h1, List.getElem?_eq_getElem h2] at this
    rw [Option.some.inj this]
  cases e : remD d ys with
  | none =>
    rw [e] at h
    refine call_meets PySem.F.slot_list_remove ⟨_, hol, rfl⟩ PySem.F.entry_list_remove (PySem.F.args_list_remove_2 _ _) (list_removeNone l vs.toArray n x _ (fun i hi => ?_)) ⟨hol, he, hh, fun h' tk e' hn => PE.new hd' hA hn h⟩
    have h1 : i < vs.length := by simpa using hi
    have h2 : i < ys.length := lenv ▸ h1
    show PyData.eqv (SeqAt.readOf s.heap vs[i]) d = false
    rw [at_ i h1 h2]
    exact remD_none e _ (List.getElem_mem h2)
  | some r =>
    rw [e] at h
    obtain ⟨j, hj, hit, hno, rfl⟩ := remD_some e
    have hj' : j < vs.length := lenv ▸ hj
    refine call_meets PySem.F.slot_list_remove ⟨_, hol, rfl⟩ PySem.F.entry_list_remove (PySem.F.args_list_remove_2 _ _) (list_removeAt l vs.toArray n x _ j (by simpa using hj') (by show PyData.eqv (SeqAt.readOf s.heap vs[j]) d = true; rw [at_ j hj' hj]; exact hit)
      (fun i hi hij => ?_) (by rw [List.size_toArray, lenv]; exact hz)) ⟨hol, he, ?_⟩
    · have h1 : i < vs.length := by simpa using hi
      have h2 : i < ys.length := lenv ▸ h1
      show PyData.eqv (SeqAt.readOf s.heap vs[i]) d = false
      rw [at_ i h1 h2]; exact hno i h2 hij
    · obtain ⟨n', hm⟩ := mapSeq_list (fun xs => xs.eraseIdxIfInBounds j) vs.toArray n
      have e1 : (vs.toArray.eraseIdxIfInBounds j) = (vs.eraseIdx j).toArray := by
        apply Array.toList_inj.mp; simp
      rw [e1] at hm
      refine PQ.upd (tk := s.toks) (ao := .list ((ys.eraseIdx j).map (·.2))) hd' hA hl (Heap.SameBut.update ..) (Heap.get?_update_self _ hol (by rw [hm]; rfl)) ⟨vs.eraseIdx j, n', hm, ?_⟩ h
      rw [map_eraseIdx, map_eraseIdx, hv]
theorem W_truthyList {l : Addr} {xs : List AV} {Q : Bool → Loc → Led → Prop} (hl : σ l = some (.list xs)) (hz : xs.length ≤ sizeLine) (h : Q (!xs.isEmpty) m σ) : W c (truthy (.ref l)) Q E m σ := fun φ s hd hA => by
  obtain ⟨ol, hol, vs, n, rfl, hv⟩ := hA.led l _ (Led.un_left hl)
  have e : vs.toArray.isEmpty = xs.isEmpty := by rw [← hv]; cases vs <;> rfl
  refine wpAny_truthy_list ⟨_, hol, rfl, n, rfl⟩ ?_ (by rw [e]; exact PQ.here hd hA h)
  rw [List.size_toArray, show vs.length = xs.length from by rw [← hv]; simp]
  have : sizeLine = 2 ^ 24 := rfl
  omega
theorem W_listCopy {l : Addr} {xs : List AV} {Q : Value → Loc → Led → Prop} (hl : σ l = some (.list xs) ∨ σ l = some (.tuple xs)) (hz : xs.length ≤ sizeLine) (h : ∀ a, σ a = none → Q (.ref a) m (σ.set a (.list xs))) : W c (call (.type "list") [.ref l]) Q E m σ := fun φ s hd hA => by
  rcases hl with hl | hl
  · obtain ⟨ol, hol, vs, n, rfl, hv⟩ := hA.led l _ (Led.un_left hl)
    refine call_list_seq l (.inl rfl) hol rfl rfl (fun h' c' hk hD => PQ.new (ao := .list xs) (tk := s.toks) hd hA hk hD ⟨vs, c', rfl, hv⟩ (Nat.le_refl _) (h _)) ?_
    rw [List.size_toArray, show vs.length = xs.length from by rw [← hv]; simp]; exact hz
  · obtain ⟨ol, hol, vs, n, rfl, hv⟩ := hA.led l _ (Led.un_left hl)
    refine call_list_seq l (.inr rfl) hol rfl rfl (fun h' c' hk hD => PQ.new (ao := .list xs) (tk := s.toks) hd hA hk hD ⟨vs, c', rfl, hv⟩ (Nat.le_refl _) (h _)) ?_
    rw [List.size_toArray, show vs.length = xs.length from by rw [← hv]; simp]; exact hz
theorem W_UnaryOp {op : UnaryOp} {x : Expr} {pos : Pos} {Q : Value → Loc → Led → Prop} (h : W c (eval x env) (fun v m σ => W c (unaryOp op v) Q E m σ) E m σ) : W c (eval (.UnaryOp op x pos) env) Q E m σ := fun φ s hd hA => wpAny_UnaryOp (W_chain (h φ s hd hA))
theorem W_not {v : Value} {Q : Value → Loc → Led → Prop} (h : W c (truthy v) (fun b => Q (.bool (!b))) E m σ) : W c (unaryOp .Not v) Q E m σ := fun φ s hd hA => not_value (wpAny_mono (h φ s hd hA) (fun _ _ x => x) fun _ _ x => x)
end
end Mine
end
section
namespace Mine
/-! a rule of the library's that tells its heap by a ledger: the ledger is all of the heap -/
noncomputable def others (h : Heap) (L d : Addr) : List (Addr × Obj) := (List.range h.objs.size).filterMap fun a => if a = L ∨ a = d then none else (h.get? a).map (a, ·)
theorem mem_others {h : Heap} {L d a : Addr} {o : Obj} : (a, o) ∈ others h L d ↔ h.get? a = some o ∧ a ≠ L ∧ a ≠ d := by
  unfold others
  rw [List.mem_filterMap]
  constructor
  · rintro ⟨b, _, e⟩
    split at e
    · cases e
    · rename_i q
      cases g : h.get? b with
      | none => rw [g] at e; cases e
      | some o' =>
        rw [g] at e
        cases e
        exact ⟨g, fun x => q (.inl x), fun x => q (.inr x)⟩
  · rintro ⟨g, h1, h2⟩
    refine ⟨a, List.mem_range.mpr (Heap.lt_size g), ?_⟩
    rw [if_neg (by rintro (x | x); exact h1 x; exact h2 x), g]; rfl
theorem others_ne {h : Heap} {L d : Addr} : ∀ p ∈ others h L d, p.1 ≠ d := fun _ hp => (mem_others.mp hp).2.2
theorem none_get (a : Addr) : ({} : Heap).get? a = none := Heap.get?_none_of_le (Nat.zero_le _)
theorem At.told {w : World} {B h : Heap} {L d : Addr} {m : Loc} {fs : List (Addr × Loc)} {σ : Led} {ao : AO} (hA : At w B ((L, m) :: fs) h σ) (hd : σ d = some ao) :
    ∃ m' od, h.get? d = some od ∧ ao.ok w od ∧ Fr {} L h m' ∧ News {} L h ([] ++ (d, od) :: others h L d) ∧
      ∀ (h' : Heap) (od' : Obj) (ao' : AO), Fr {} L h' m' → News {} L h' ([] ++ (d, od') :: others h L d) → ao'.ok w od' → At w B ((L, m) :: fs) h' (σ.set d ao') := by
  obtain ⟨m', hn, he⟩ := hA.frames _ (.head _)
  obtain ⟨od, ho, k⟩ := hA.led d ao hd
  have hdL : d ≠ L := hA.apart d ao hd _ (.head _)
  refine ⟨m', od, ho, k, ⟨hn, (fun b o e => by rw [none_get] at e; cases e), Nat.zero_le _⟩, fun p hp => ?_, fun h' od' ao' F N k' => ?_⟩
  · rcases List.mem_cons.mp hp with rfl | hp
    · exact ⟨ho, hdL, none_get _⟩
    · obtain ⟨a, o⟩ := p
      have := mem_others.mp hp
      exact ⟨this.1, this.2.1, none_get _⟩
  · have same : ∀ b o, b ≠ L → b ≠ d → h.get? b = some o → h'.get? b = some o := fun b o h1 h2 e => (N (b, o) (List.mem_cons_of_mem _ (mem_others.mpr ⟨e, h1, h2⟩))).1
    have nd := List.nodup_cons.mp hA.nodup
    refine ⟨fun b o e => same b o (fun q => ?_) (fun q => ?_) (hA.keep b o e), fun p hp => ?_, hA.above, hA.nodup, fun b bo e => ?_, fun b bo e => ?_, fun b bo e p hp => ?_⟩
    · rw [q, show B.get? L = none from hA.above _ (.head _)] at e; cases e
    · rw [q, hA.new d ao hd] at e; cases e
    · rcases List.mem_cons.mp hp with rfl | hp
      · exact ⟨m', F.ns, he⟩
      · refine (hA.frames p (.tail _ hp)).keeps fun o e => same _ o (fun q => ?_) (fun q => hA.apart d ao hd p (.tail _ hp) q.symm) e
        exact nd.1 (List.mem_map.mpr ⟨p, hp, q⟩)
    · by_cases q : b = d
      · subst q; rw [Led.set_self] at e; cases e; exact ⟨od', (N (b, od') (.head _)).1, k'⟩
      · rw [Led.set_ne q] at e
        obtain ⟨o, ho', k''⟩ := hA.led b bo e
        exact ⟨o, same b o (hA.apart b bo e _ (.head _)) q ho', k''⟩
    · by_cases q : b = d
      · subst q; exact hA.new _ _ hd
      · rw [Led.set_ne q] at e; exact hA.new b bo e
    · by_cases q : b = d
      · subst q; exact hA.apart _ _ hd p hp
      · rw [Led.set_ne q] at e; exact hA.apart b bo e p hp
/-! attributes in an instance's dict -/
noncomputable def putA (name : Str) (v : AV) : List (Str × AV) → List (Str × AV)
  | [] => [(name, v)]
  | e :: r => if e.1 = name then (e.1, v) :: r else e :: putA name v r
theorem isStr_eq {k : Value} {x name : Str} {t : Tok} (h : k = .str x t) : k.isStr name = decide (x = name) := by
  subst h; show (x == name) = _; by_cases q : x = name <;> simp [q]
theorem attrs_put {w : World} {name : Str} {v : Value} {t : Tok} {ds : List DictEntry} {es : List (Str × AV)} (h : Rel2 (attrOk w) ds es) : Rel2 (attrOk w) (putL name (PyData.keyHash w.params name) (.str name t) v ds) (putA name (er v) es) :=
  Rel2.ind (R := attrOk w) (P := fun ds es => Rel2 (attrOk w) (putL name (PyData.keyHash w.params name) (.str name t) v ds) (putA name (er v) es)) ⟨⟨rfl, ⟨t, rfl⟩, rfl⟩, trivial⟩ (fun d ds e es h hr ih => by
    obtain ⟨h1, ⟨u, h2⟩, h3⟩ := h
    unfold putL putA
    rw [isStr_eq h2]
    by_cases q : e.1 = name
    · rw [if_pos (by simpa using q), if_pos q]; exact ⟨⟨rfl, ⟨u, h2⟩, h3⟩, hr⟩
    · rw [if_neg (by simpa using q), if_neg q]; exact ⟨⟨h1, ⟨u, h2⟩, h3⟩, ih⟩) ds es h
theorem attrs_length {w : World} {ds : List DictEntry} {es : List (Str × AV)} (h : Rel2 (attrOk w) ds es) : ds.length = es.length :=
  Rel2.ind (R := attrOk w) (P := fun ds es => ds.length = es.length) rfl (fun _ _ _ _ _ _ ih => congrArg Nat.succ ih) ds es h
theorem attrs_noref {w : World} {ds : List DictEntry} {es : List (Str × AV)} (h : Rel2 (attrOk w) ds es) : ds.any (·.refKey) = false :=
  Rel2.ind (R := attrOk w) (P := fun ds _ => ds.any (·.refKey) = false) rfl (fun d ds e es h hr ih => by
    obtain ⟨h1, ⟨u, h2⟩, h3⟩ := h
    rw [List.any_cons, ih]
    have : d.refKey = false := by unfold DictEntry.refKey; rw [h2]
    rw [this]; rfl) ds es h
theorem attrs_get {w : World} {name : Str} {av : AV} {ds : List DictEntry} {es : List (Str × AV)} (h0 : Rel2 (attrOk w) ds es) : es.lookup name = some av → ∃ v, getL name ds = some (some v) ∧ er v = av :=
  Rel2.ind (R := attrOk w) (P := fun ds es => es.lookup name = some av → ∃ v, getL name ds = some (some v) ∧ er v = av) (fun h => by cases h) (fun d ds e es h hr ih => by
    obtain ⟨h1, ⟨u, h2⟩, h3⟩ := h
    intro h
    unfold getL
    rw [List.find?_cons, isStr_eq h2]
    obtain ⟨x, av'⟩ := e
    rw [List.lookup_cons] at h
    by_cases q : x = name
    · subst q
      simp only [beq_self_eq_true] at h
      cases h
      simp only [decide_true]
      exact ⟨d.val, rfl, h1⟩
    · rw [show (name == x) = false from beq_eq_false_iff_ne.mpr (Ne.symm q)] at h
      rw [show decide (x = name) = false from decide_eq_false q]
      obtain ⟨v, hv, e⟩ := ih h
      refine ⟨v, ?_, e⟩
      unfold getL at hv
      have hn : (d :: ds).any (·.refKey) = ds.any (·.refKey) := by
        rw [List.any_cons]
        have : d.refKey = false := by unfold DictEntry.refKey; rw [h2]
        rw [this]; rfl
      rw [hn]; exact hv) ds es h0
theorem attrs_miss {w : World} {name : Str} {ds : List DictEntry} {es : List (Str × AV)} (h0 : Rel2 (attrOk w) ds es) : es.lookup name = none → getL name ds = some none :=
  Rel2.ind (R := attrOk w) (P := fun ds es => es.lookup name = none → getL name ds = some none) (fun _ => rfl) (fun d ds e es h' hr ih h => by
    have nr := attrs_noref (w := w) (ds := d :: ds) (es := e :: es) ⟨h', hr⟩
    obtain ⟨h1, ⟨u, h2⟩, h3⟩ := h'
    unfold getL
    rw [List.find?_cons, isStr_eq h2]
    obtain ⟨x, av'⟩ := e
    rw [List.lookup_cons] at h
    by_cases q : x = name
    · subst q; simp at h
    · rw [show (name == x) = false from beq_eq_false_iff_ne.mpr (Ne.symm q)] at h
      rw [show decide (x = name) = false from decide_eq_false q]
      have z := ih h
      unfold getL at z
      rw [nr]
      rw [attrs_noref hr] at z
      exact z) ds es h0
theorem attrs_isSome {w : World} {name : Str} {ds : List DictEntry} {es : List (Str × AV)} (h : Rel2 (attrOk w) ds es) : (getL name ds).isSome = true := by
  cases e : es.lookup name with
  | none => rw [attrs_miss h e]; rfl
  | some av => obtain ⟨v, hv, _⟩ := attrs_get h e; rw [hv]; rfl
theorem handed_of {v : Value} (h : ∀ u, er v ≠ .oth u) : handedIn v = true := by
  cases v <;> first | rfl | exact absurd rfl (h _)
section
variable {K : Params → Frag} {n : Nat} {c : Cx} {E : Value → Loc → Led → Prop} {m : Loc} {σ : Led} {env : Env} {x dx C : Addr} {es : List (Str × AV)} {name : Str}
theorem instAt_dict {φ : Led} {h : Heap} (hA : At c.w c.B ((c.L, m) :: c.fs) h (σ.un φ)) (hx : σ x = some (.exact (instObj C dx))) (hd : σ dx = some (.attrs es)) :
    ∃ ds k, InstAt h x (instObj C dx) C (some (dictOf ds k)) ∧ Rel2 (attrOk c.w) ds es := by
  obtain ⟨o, ho, rfl⟩ := hA.led x _ (Led.un_left hx)
  obtain ⟨od, hod, ds, k, rfl, hr⟩ := hA.led dx _ (Led.un_left hd)
  exact ⟨ds, k, ⟨ho, rfl, rfl, hod⟩, hr⟩
theorem W_getAttr {av : AV} {attr : Option Value} {expr : Bool} {Q : Value → Loc → Led → Prop} (G : Good K n c) (hx : σ x = some (.exact (instObj C dx))) (hd : σ dx = some (.attrs es)) (hl : es.lookup name = some av) (hno : ∀ u, av ≠ .oth u)
    (hg : plainGet (K c.w.params) C name = true) (hh : hasDictIn (K c.w.params) C = true) (ha : findIn (K c.w.params) (.ref C) name = some attr) (hn : noGet (K c.w.params) attr = true) (h : ∀ v, er v = av → Q v m σ) : W c (getAttr (.ref x) name expr) Q E m σ := fun φ s hd' hA => by
  obtain ⟨ds, k, I, hr⟩ := instAt_dict hA hx hd
  obtain ⟨v, hv, e⟩ := attrs_get hr hl
  exact get_value (G.X.keeps hA.keep) I (plainGet_of hg).1 (findObj_own hh ha hn hv) (handed_of (by rw [e]; exact hno)) (PQ.here hd' hA (h v e))
theorem W_setAttr {v : Value} {Q : Unit → Loc → Led → Prop} (G : Good K n c) (hx : σ x = some (.exact (instObj C dx))) (hd : σ dx = some (.attrs es)) (hz : es.length ≤ 900)
    (hs : findIn (K c.w.params) (.ref C) "__setattr__" = some (some (.builtin "object.__setattr__"))) (hp : plainOver (K c.w.params) C = true) (ht : takerIn (K c.w.params) C name = some none) (hh : hasDictIn (K c.w.params) C = true)
    (h : Q () m (σ.set dx (.attrs (putA name (er v) es)))) : W c (setAttr (.ref x) name v) Q E m σ := fun φ s hd' hA => by
  obtain ⟨ds, k, I, hr⟩ := instAt_dict hA hx hd
  obtain ⟨m', od, hod, hk, F, N, back⟩ := hA.told (Led.un_left hd)
  obtain ⟨ds', k', rfl, hr'⟩ := hk
  have I' : InstAt s.heap x (instObj C dx) C (some (dictOf ds' k')) := ⟨I.at_, rfl, rfl, hod⟩
  have X := G.X.keeps hA.keep
  refine set_plain X I' hs (osa_dict (s := { s with toks := s.toks + 1 }) (es := putL name (PyData.keyHash c.w.params name) (.str name (s.toks + 1)) v ds') F N X I' rfl hp ht hh (by rw [lookIn_dict]; exact attrs_isSome hr') (fun _ q => (nomatch q)) others_ne (putName_dict _ _ _ _ _ _) rfl ?_ fun h' F' N' => ?_)
  · have := attrs_length (attrs_put (name := name) (v := v) (t := s.toks + 1) hr')
    rw [this]
    have e : ∀ l : List (Str × AV), (putA name (er v) l).length ≤ l.length + 1 := by
      intro l
      induction l with
      | nil => exact Nat.le_refl _
      | cons a r ih => unfold putA; split <;> simp; omega
    have := e es; omega
  · have hφ : φ dx = none := (hd' dx).resolve_left (by rw [hd]; intro q; cases q)
    exact ⟨h', _, m, σ.set dx (.attrs (putA name (er v) es)), rfl, hd'.set hφ, Led.un_set ▸ back h' _ (.attrs (putA name (er v) es)) F' N' ⟨_, _, rfl, attrs_put hr'⟩, h⟩
theorem W_getMethod {f : Addr} {pl : Sem Bool} {Q : Value × List Value → Loc → Led → Prop} (G : Good K n c) (hx : σ x = some (.exact (instObj C dx))) (hd : σ dx = some (.attrs es)) (hl : es.lookup name = none) (hg : plainGet (K c.w.params) C name = true)
    (hf : findIn (K c.w.params) (.ref C) name = some (some (.ref f))) (ht : isFn (K c.w.params) (.ref f) = true) (h : Q (.ref f, [.ref x]) m σ) : W c (getMethod (.ref x) name pl) Q E m σ := fun φ s hd' hA => by
  obtain ⟨ds, k, I, hr⟩ := instAt_dict hA hx hd
  exact method_fn (G.X.keeps hA.keep) I (plainGet_of hg).1 (plainGet_of hg).2 hf (beq_iff_eq.mp ht) (by show (lookIn name (dictOf ds k)).map _ = _; rw [lookIn_dict, attrs_miss hr hl]; rfl) ⟨s.heap, s.toks, m, σ, rfl, hd', hA, h⟩
end
/-! slots -/
section
variable {K : Params → Frag} {n : Nat} {c : Cx} {E : Value → Loc → Led → Prop} {m : Loc} {σ : Led} {env : Env} {x dx C p : Addr} {i : Nat} {xs : List AV} {name : Str}
theorem instAt_slots {φ : Led} {h : Heap} (hA : At c.w c.B ((c.L, m) :: c.fs) h (σ.un φ)) (hx : σ x = some (.slots C dx xs)) (hd : σ dx = some (.attrs [])) :
    ∃ vs : List Value, ∃ k, InstAt h x ⟨.ref C, some dx, .plain, (vs.map some).toArray⟩ C (some (dictOf [] k)) ∧ vs.map er = xs := by
  obtain ⟨o, ho, vs, rfl, hv⟩ := hA.led x _ (Led.un_left hx)
  obtain ⟨od, hod, ds, k, rfl, hr⟩ := hA.led dx _ (Led.un_left hd)
  cases ds with
  | nil => exact ⟨vs, k, ⟨ho, rfl, rfl, hod⟩, hv⟩
  | cons _ _ => exact hr.elim
theorem W_getSlot {av : AV} {expr : Bool} {Q : Value → Loc → Led → Prop} (G : Good K n c) (hx : σ x = some (.slots C dx xs)) (hd : σ dx = some (.attrs [])) (hl : xs[i]? = some av) (hno : ∀ u, av ≠ .oth u)
    (hg : plainGet (K c.w.params) C name = true) (hc : isClsIn (K c.w.params) C = true) (ha : findIn (K c.w.params) (.ref C) name = some (some (.ref p))) (hn : specialIn (K c.w.params) (.ref p) "__get__" = some (some (.builtin "member_descriptor.__get__")))
    (ht : takesIn (K c.w.params) (.ref p) = some true) (hp : slotIn (K c.w.params) p C = some i) (h : ∀ v, er v = av → Q v m σ) : W c (getAttr (.ref x) name expr) Q E m σ := fun φ s hd' hA => by
  obtain ⟨vs, k, I, hv⟩ := instAt_slots hA hx hd
  obtain ⟨v, hv', e⟩ := getElem_er hv hl
  have X := G.X.keeps hA.keep
  refine get_bind X I (plainGet_of hg).1 (findObj_data hc ha hn ht) (plainGet_of hg).2 (wpAny_call (slot_get (s := { s with toks := s.toks + 1 }) X I hp (v := v) ?_ (handed_on (handed_of (by rw [e]; exact hno)) (PQ.here hd' hA (h v e)))))
  have : vs[i]? = some v := by simpa using hv'
  simp [this]
theorem W_setSlot {v : Value} {xs' : List AV} {Q : Unit → Loc → Led → Prop} (G : Good K n c) (hx : σ x = some (.slots C dx xs)) (hd : σ dx = some (.attrs [])) (hi : i ≤ xs.length) (hz : i < 1000)
    (hs : findIn (K c.w.params) (.ref C) "__setattr__" = some (some (.builtin "object.__setattr__"))) (hp : plainOver (K c.w.params) C = true) (ht : takerIn (K c.w.params) C name = some (some (.ref p))) (hT : typeIn (K c.w.params) (.ref p) = some (.type "member_descriptor"))
    (hsl : slotIn (K c.w.params) p C = some i) (e : (if i = xs.length then xs ++ [er v] else xs.set i (er v)) = xs') (h : Q () m (σ.set x (.slots C dx xs'))) : W c (setAttr (.ref x) name v) Q E m σ := fun φ s hd' hA => by
  obtain ⟨vs, k, I, hv⟩ := instAt_slots hA hx hd
  obtain ⟨m', ox, hox, hk, F, N, back⟩ := hA.told (Led.un_left hx)
  obtain ⟨vs', rfl, hv'⟩ := hk
  have I' : InstAt s.heap x ⟨.ref C, some dx, .plain, (vs'.map some).toArray⟩ C (some (dictOf [] k)) := ⟨hox, rfl, rfl, I.dict⟩
  have X := G.X.keeps hA.keep
  have len : vs'.length = xs.length := by rw [← hv']; simp
  have e2 : (((vs'.map some).toArray ++ Array.replicate (i + 1 - (vs'.map some).toArray.size) none).setIfInBounds i (some v)) = ((if i = xs.length then vs' ++ [v] else vs'.set i v).map some).toArray := by
    apply Array.toList_inj.mp
    by_cases q : i = xs.length
    · rw [if_pos q]
      have : i + 1 - (vs'.map some).toArray.size = 1 := by simp [len, q]
      rw [this]
      simp [q, ← len, List.set_append]
    · rw [if_neg q]
      have : i + 1 - (vs'.map some).toArray.size = 0 := by simp [len]; omega
      rw [this]
      simp [List.map_set]
  refine set_plain X I' hs (osa_descr (s := { s with toks := s.toks + 1 }) KF.slot_mset X I' hp ht hT (slot_set (s := { s with toks := s.toks + 1 }) F N X I' hsl hz (fun _ q => (nomatch q)) others_ne (by rw [e2]) rfl fun h' F' N' => ?_))
  have hφ : φ x = none := (hd' x).resolve_left (by rw [hx]; intro q; cases q)
  refine ⟨h', _, m, σ.set x (.slots C dx xs'), rfl, hd'.set hφ, Led.un_set ▸ back h' _ (.slots C dx xs') F' N' ⟨_, rfl, ?_⟩, h⟩
  rw [← e, ← hv']
  by_cases q : i = xs.length
  · subst hv'; rw [if_pos q, if_pos q]; simp
  · subst hv'; rw [if_neg q, if_neg q]; rw [List.map_set]
end
end Mine
end
section
namespace Mine
section
variable {K : Params → Frag} {n : Nat} {c : Cx} {E : Value → Loc → Led → Prop} {m : Loc} {σ : Led} {env : Env}
/-- a tree that reckons an int -/
theorem W_int {t : Sem Value} {k : Int} {Q : Value → Loc → Led → Prop} (h : ∀ (s : Shared) (Q' : Value → Shared → Prop) (E' : Value → Shared → Prop), (∀ b o, c.B.get? b = some o → s.heap.get? b = some o) → Q' (.int k s.toks) { s with toks := s.toks + 1 } → wpAny (model c.prog c.w) c.A t Q' E' s)
    (hq : ∀ t, Q (.int k t) m σ) : W c t Q E m σ := fun φ s hd hA => h s _ _ hA.keep (PQ.here hd hA (hq _))
theorem W_val {α : Type} {t : Sem α} {v : α} {Q : α → Loc → Led → Prop} (h : ∀ (s : Shared) (Q' : α → Shared → Prop) (E' : Value → Shared → Prop), (∀ b o, c.B.get? b = some o → s.heap.get? b = some o) → Q' v s → wpAny (model c.prog c.w) c.A t Q' E' s)
    (hq : Q v m σ) : W c t Q E m σ := fun φ s hd hA => h s _ _ hA.keep ⟨s.heap, s.toks, m, σ, rfl, hd, hA, hq⟩
variable {a b : Int} {t u : Tok} {Q : Value → Loc → Led → Prop}
theorem W_add (h : ∀ t, Q (.int (a + b) t) m σ) : W c (binaryOp .Add (.int a t) (.int b u)) Q E m σ := W_int (fun _ _ _ _ q => PySem.P.add_int q) h
theorem W_sub (h : ∀ t, Q (.int (a - b) t) m σ) : W c (binaryOp .Sub (.int a t) (.int b u)) Q E m σ := W_int (fun _ _ _ _ q => PySem.P.sub_int q) h
theorem W_iadd (h : ∀ t, Q (.int (a + b) t) m σ) : W c (inplaceOp .Add (.int a t) (.int b u)) Q E m σ := W_int (fun _ _ _ _ q => PySem.P.iadd_int q) h
theorem W_isub (h : ∀ t, Q (.int (a - b) t) m σ) : W c (inplaceOp .Sub (.int a t) (.int b u)) Q E m σ := W_int (fun _ _ _ _ q => PySem.P.isub_int q) h
theorem W_neg (h : ∀ t, Q (.int (-a) t) m σ) : W c (unaryOp .USub (.int a t)) Q E m σ := W_int (fun _ _ _ _ q => PySem.P.neg_int q) h
theorem W_mod (hb : b ≠ 0) (h : ∀ t, Q (.int (a.fmod b) t) m σ) : W c (binaryOp .Mod (.int a t) (.int b u)) Q E m σ := W_int (fun _ _ _ _ q => PyProof.Rows.mod_int' hb q) h
theorem W_floordiv (hb : b ≠ 0) (hp : Builtin.divisionGoesByPylong a b = false) (h : ∀ t, Q (.int (a.fdiv b) t) m σ) : W c (binaryOp .FloorDiv (.int a t) (.int b u)) Q E m σ := W_int (fun _ _ _ _ q => PyProof.Rows.floordiv_int hb q (.inl hp)) h
theorem W_lt (h : Q (.bool (decide (a < b))) m σ) : W c (compareOp .Lt (.int a t) (.int b u)) Q E m σ := W_val (fun _ _ _ _ q => PySem.P.lt_int q) h
theorem W_eqInt (h : Q (.bool (a == b)) m σ) : W c (compareOp .Eq (.int a t) (.int b u)) Q E m σ := W_val (fun _ _ _ _ q => PySem.P.eq_int q) h
theorem W_neInt (h : Q (.bool (a != b)) m σ) : W c (compareOp .NotEq (.int a t) (.int b u)) Q E m σ := W_val (fun _ _ _ _ q => PySem.P.ne_int q) h
theorem W_isNone {v : Value} (h : Q (.bool (v == .none)) m σ) : W c (compareOp .Is v .none) Q E m σ := W_val (fun _ _ _ _ q => PySem.is_none q) h
theorem W_isNotNone {v : Value} (h : Q (.bool (!(v == .none))) m σ) : W c (compareOp .IsNot v .none) Q E m σ := W_val (fun _ _ _ _ q => PySem.isNot_none q) h
end
section
variable {K : Params → Frag} {n : Nat} {c : Cx} {E : Value → Loc → Led → Prop} {m : Loc} {σ : Led} {env : Env}
theorem W_Assign_Attribute {o value : Expr} {attr : Str} {pos' pos : Pos} {Q : Flow → Loc → Led → Prop} (h : W c (eval value env) (fun v m σ => W c (eval o env) (fun ov m σ => W c (setAttr ov attr v) (fun _ => Q .next) E m σ) E m σ) E m σ)
    (hs : swapsWith value (some (.Attribute o attr pos')) pos.line env = pure false := by rfl) : W c (exec (.Assign [.Attribute o attr pos'] value pos) env) Q E m σ :=
  fun _ _ hd hA => plainObj_wpAny_Assign_Attribute (W_two (u := fun _ => eval o env) (f := fun v ov => setAttr ov attr v) (Q := fun _ => Q .next) hd hA h) hs
theorem W_Attribute {value : Expr} {attr : Str} {pos : Pos} {Q : Value → Loc → Led → Prop} (h : W c (eval value env) (fun o m σ => W c (getAttr o attr true) Q E m σ) E m σ) (hb : attributeBase value attr env (eval value env) = eval value env := by rfl) :
    W c (eval (.Attribute value attr pos) env) Q E m σ := by
  rw [arm_eval_Attribute, hb]
  refine W_bind (W_mono h (fun o m σ h₁ => W_bind (W_standAt (W_bind (W_holding (W_mono h₁ (fun r m σ h₂ => W_bind ?_) fun _ _ _ x => x))))) fun _ _ _ x => x)
  exact fun φ s hd hA => wpAny_letTemporaryGo ⟨s.heap, s.toks, m, σ, rfl, hd, hA, W_pure h₂⟩
theorem W_three {α β γ δ : Type} {φ : Led} {s : Shared} {t : Sem α} {u : α → Sem β} {v : α → β → Sem γ} {f : α → β → γ → Sem δ} {Q : δ → Loc → Led → Prop} (hd : Dis σ φ) (hA : At c.w c.B ((c.L, m) :: c.fs) s.heap (σ.un φ))
    (h : W c t (fun a m σ => W c (u a) (fun b m σ => W c (v a b) (fun d m σ => W c (f a b d) Q E m σ) E m σ) E m σ) E m σ) :
    wpAny (model c.prog c.w) c.A t (fun a s₁ => wpAny (model c.prog c.w) c.A (u a) (fun b s₂ => wpAny (model c.prog c.w) c.A (v a b) (fun d s₃ => wpAny (model c.prog c.w) c.A (f a b d) (PQ c φ s Q) (PE c φ s E) s₃) (PE c φ s E) s₂) (PE c φ s E) s₁) (PE c φ s E) s :=
  wpAny_mono (h φ s hd hA) (fun a s₁ x => by
      obtain ⟨h', tk', m', σ', rfl, hd', hA', hq⟩ := x
      exact wpAny_mono (W_two hd' hA' hq) (fun _ _ y => wpAny_mono y (fun _ _ z => wpAny_mono z (fun _ _ q => q.re) fun _ _ q => q.re) fun _ _ z => z.re) fun _ _ y => y.re) fun _ _ y => y
theorem W_AugAttr {o value : Expr} {attr : Str} {tpos pos : Pos} {op : Operator} {Q : Flow → Loc → Led → Prop}
    (h : W c (eval o env) (fun ov m σ => W c (getAttr ov attr true) (fun old m σ => W c (eval value env) (fun v m σ => W c (inplaceOp op old v) (fun new m σ => W c (setAttr ov attr new) (fun _ => Q .next) E m σ) E m σ) E m σ) E m σ) E m σ) :
    W c (exec (.AugAssign (.Attribute o attr tpos) op value pos) env) Q E m σ := fun φ s hd hA => by
  refine wpAny_AugAssign_AttributeAny (wpAny_mono (h φ s hd hA) (fun ov s₁ x => ?_) fun _ _ x => x)
  obtain ⟨h', tk', m', σ', rfl, hd', hA', hq⟩ := x
  exact wpAny_mono (W_three (u := fun _ => eval value env) (v := fun old v => inplaceOp op old v) (f := fun _ _ new => setAttr ov attr new) (Q := fun _ => Q .next) hd' hA' hq)
    (fun _ _ y => wpAny_mono y (fun _ _ y => wpAny_mono y (fun _ _ y => wpAny_mono y (fun _ _ x => x) fun _ _ q => q.re) fun _ _ q => q.re) fun _ _ q => q.re) fun _ _ q => q.re
theorem W_NamedExpr {target value : Expr} {pos : Pos} {Q : Value → Loc → Led → Prop} (h : W c (eval value env) (fun v m σ => W c (assign target env v) (fun _ => Q v) E m σ) E m σ) : W c (eval (.NamedExpr target value pos) env) Q E m σ := fun φ s hd hA =>
  wpAny_NamedExpr (wpAny_mono (h φ s hd hA) (fun v s₁ x => by
    obtain ⟨h', tk', m', σ', rfl, hd', hA', hq⟩ := x
    exact wpAny_mono (hq φ _ hd' hA') (fun _ _ x => x) fun _ _ q => q.re) fun _ _ x => x)
theorem W_IfExp {test body orelse : Expr} {pos : Pos} {Q : Value → Loc → Led → Prop} (h : W c (isTrue test env (eval test env)) (fun b m σ => W c (eval (if b then body else orelse) env) Q E m σ) E m σ) : W c (eval (.IfExp test body orelse pos) env) Q E m σ := fun φ s hd hA =>
  wpAny_IfExp (wpAny_mono (h φ s hd hA) (fun b s₁ x => by
    have := W_then (f := fun b : Bool => eval (if b then body else orelse) env) x
    cases b <;> exact this) fun _ _ y => y)
theorem W_Assign_two {t₁ t₂ value : Expr} {pos : Pos} {Q : Flow → Loc → Led → Prop} (h : W c (eval value env) (fun v m σ => W c (assign t₁ env v) (fun _ m σ => W c (assign t₂ env v) (fun _ => Q .next) E m σ) E m σ) E m σ)
    (he : (assignEach [t₁, t₂] env).map (·.2) = [assign t₁ env, assign t₂ env] := by rfl) (hw : swappedStores [t₁, t₂] value env = pure none := by rfl) : W c (exec (.Assign [t₁, t₂] value pos) env) Q E m σ :=
  fun _ _ hd hA => wpAny_Assign_two (W_two (u := fun v => assign t₁ env v) (f := fun v _ => assign t₂ env v) (Q := fun _ => Q .next) hd hA h) he hw
theorem W_release {vs keep : List Value} {Q : Unit → Loc → Led → Prop} (h : Q () m σ) : W c (release vs keep) Q E m σ := fun φ s hd hA Γ p hΓ => by
  rw [Sem.wp_release]; exact ⟨s.heap, s.toks, m, σ, rfl, hd, hA, h⟩
theorem W_assignSubscript {o i : Expr} {pos : Pos} {v : Value} {Q : Unit → Loc → Led → Prop} (h : W c (eval o env) (fun ov m σ => W c (eval i env) (fun iv m σ => W c (setItem ov iv v) Q E m σ) E m σ) E m σ) : W c (assign (.Subscript o i pos) env v) Q E m σ := by
  rw [assign_Subscript]
  exact W_bind (W_holding (W_mono h (fun _ _ _ h₁ => W_bind (W_holding (W_mono h₁ (fun _ _ _ h₂ => W_bind (W_standAt (W_bind (W_holding (W_mono h₂ (fun _ _ _ h₃ => W_release h₃) fun _ _ _ x => x))))) fun _ _ _ x => x))) fun _ _ _ x => x))
theorem W_Assign_Subscript {o i value : Expr} {pos' pos : Pos} {Q : Flow → Loc → Led → Prop} (h : W c (eval value env) (fun v m σ => W c (eval o env) (fun ov m σ => W c (eval i env) (fun iv m σ => W c (setItem ov iv v) (fun _ => Q .next) E m σ) E m σ) E m σ) E m σ)
    (hs : swapsWith value (some (.Subscript o i pos')) pos.line env = pure false := by rfl) : W c (exec (.Assign [.Subscript o i pos'] value pos) env) Q E m σ :=
  fun _ _ hd hA => wpAny_Assign_Subscript (W_three (u := fun _ => eval o env) (v := fun _ _ => eval i env) (f := fun v ov iv => setItem ov iv v) (Q := fun _ => Q .next) hd hA h) hs
theorem W_Subscript {value slice : Expr} {pos : Pos} {Q : Value → Loc → Led → Prop} (h : W c (eval value env) (fun o m σ => W c (eval slice env) (fun i m σ => W c (subscriptTail value slice o i) Q E m σ) E m σ) E m σ) : W c (eval (.Subscript value slice pos) env) Q E m σ :=
  fun _ _ hd hA => PyProof.Rows.Subscript_ (W_two (u := fun _ => eval slice env) (f := fun o i => subscriptTail value slice o i) hd hA h)
theorem W_isTrue {e : Expr} {whole : Sem Value} {Q : Bool → Loc → Led → Prop} (h : W c whole (fun v m σ => W c (truthy v) Q E m σ) E m σ) (he : isTrue e env whole = (do let v ← whole; standAt e.pos; holding [v] (truthy v)) := by rfl) : W c (isTrue e env whole) Q E m σ :=
  fun φ s hd hA => wpAny_isTrue_value (W_chain (h φ s hd hA)) he
theorem W_isTrue_Not {x : Expr} {pos : Pos} {whole : Sem Value} {Q : Bool → Loc → Led → Prop} (h : W c (isTrue x env (eval x env)) (fun b => Q (!b)) E m σ) : W c (isTrue (.UnaryOp .Not x pos) env whole) Q E m σ :=
  fun φ s hd hA => wpAny_isTrue_Not (wpAny_mono (h φ s hd hA) (fun _ _ x => x) fun _ _ x => x)
theorem W_Break {pos : Pos} {Q : Flow → Loc → Led → Prop} (h : Q .brk m σ) : W c (exec (.Break pos) env) Q E m σ := fun _ s hd hA => wpAny_Break ⟨s.heap, s.toks, m, σ, rfl, hd, hA, h⟩
theorem W_Continue {pos : Pos} {Q : Flow → Loc → Led → Prop} (h : Q .cont m σ) : W c (exec (.Continue pos) env) Q E m σ := fun _ s hd hA => wpAny_Continue ⟨s.heap, s.toks, m, σ, rfl, hd, hA, h⟩
theorem W_Or2 {x y : Expr} {pos : Pos} {Q : Value → Loc → Led → Prop} (h : W c (eval x env) (fun v m σ => W c (truthy v) (fun t m σ => if t then Q v m σ else W c (eval y env) Q E m σ) E m σ) E m σ) : W c (eval (.BoolOp .Or [x, y] pos) env) Q E m σ := fun φ s hd hA =>
  wpAny_Or2 (wpAny_mono (h φ s hd hA) (fun v s₁ z => by
    obtain ⟨h', tk', m', σ', rfl, hd', hA', hq⟩ := z
    refine wpAny_mono (hq φ _ hd' hA') (fun t s₂ z => ?_) fun _ _ q => q.re
    obtain ⟨h'', tk'', m'', σ'', rfl, hd'', hA'', hq'⟩ := z
    cases t with
    | true => exact ⟨h'', tk'', m'', σ'', rfl, hd'', hA'', hq'⟩
    | false => exact wpAny_mono (hq' φ _ hd'' hA'') (fun _ _ q => q.re) fun _ _ q => q.re) fun _ _ x => x)
/-- a class of the written part called -/
noncomputable def Cx.make (c : Cx) (C : Addr) (vals : List Value) : Cx := { c with A := c.A.under (.builtin "type.__call__" ⟨.ref C :: vals, []⟩) }
theorem Good.make {C : Addr} {vals : List Value} (G : Good K (n + 1) c) : Good K n (c.make C vals) :=
  ⟨G.X, G.T, G.mods, ⟨G.ok.stack⟩, by have := G.depth; show c.A.depth + 1 + n < _; omega, by have := G.units; show c.A.units + 1 + 10 * n + 200 < _; omega⟩
theorem W_make {C fI : Addr} {vals : List Value} {Q : Value → Loc → Led → Prop} (ao : Addr → AO) (hao : ∀ dx, (ao dx).ok c.w (instObj C dx)) (G : Good K (n + 1) c) (hm : makesIn (K c.w.params) C = true) (hi : findIn (K c.w.params) (.ref C) "__init__" = some (some (.ref fI))) (hf : isFn (K c.w.params) (.ref fI) = true)
    (h : ∀ x dx, σ x = none → σ dx = none → x ≠ dx → WC (c.make C vals) (.call (.ref fI) ⟨.ref x :: vals, []⟩) (fun v m' σ' => v = .none ∧ Q (.ref x) m' σ') E m ((σ.set dx (.attrs [])).set x (ao dx))) : W c (call (.ref C) vals) Q E m σ := fun φ s hd hA => by
  obtain ⟨hh, g, d, t, os⟩ := s
  have X := G.X.keeps hA.keep
  refine wpAny_call (make_core (makes_of X hm) (looks_findIn X hi) (fun self => bind_fn X self (beq_iff_eq.mp hf)) (.inl rfl) ?_)
  have e1 := Led.un_none (hA.fresh (Nat.le_refl _))
  have hA1 : At c.w c.B ((c.L, m) :: c.fs) (hh.push emptyDict) ((σ.set hh.objs.size (.attrs [])).un φ) := Led.un_set ▸ hA.alloc (fun b o e => Heap.get?_push_of_some _ e) (Heap.get?_push_size _ rfl) ⟨[], 0, rfl, trivial⟩ (Nat.le_refl _)
  have sz : (hh.push emptyDict).objs.size = hh.objs.size + 1 := Heap.size_push ..
  have e2 := Led.un_none (hA1.fresh (a := hh.objs.size + 1) (by rw [sz]; exact Nat.le_refl _))
  have ne : hh.objs.size + 1 ≠ hh.objs.size := Nat.succ_ne_self _
  have e3 : σ (hh.objs.size + 1) = none := by have := e2.1; rwa [Led.set_ne ne] at this
  have hA2 : At c.w c.B ((c.L, m) :: c.fs) ((hh.push emptyDict).push (instObj C hh.objs.size)) (((σ.set hh.objs.size (.attrs [])).set (hh.objs.size + 1) (ao hh.objs.size)).un φ) :=
    Led.un_set ▸ hA1.alloc (fun b o e => Heap.get?_push_of_some _ e) (by rw [← sz]; exact Heap.get?_push_size _ rfl) (hao _) (by rw [sz]; exact Nat.le_refl _)
  refine codeAny_mono (h _ _ e3 e1.1 ne φ ⟨_, g, d, t, os⟩ ((hd.set e1.2).set e2.2) hA2) fun r s' z => ?_
  rcases r with e | (v | _ | _ | _)
  · exact z
  · exact z.elim
  · exact z.elim
  · exact z.elim
  · obtain ⟨a, b, d', e', rfl, f1, f2, rfl, f3⟩ := z
    exact ⟨rfl, ⟨a, b, d', e', rfl, f1, f2, f3⟩⟩
end
end Mine
end
section
namespace Mine
open PySem.SeqAt
section
variable {prog : Program} {w : World} {A : Around} {E : Value → Shared → Prop} {s : Shared}
theorem pyHash_bool {b : Bool} {Q : Int → Shared → Prop} (h : Q (hashInt (if b then 1 else 0)) { s with toks := s.toks + 1 }) : wpAny (model prog w) A (pyHash (.bool b)) Q E s := by
  have hT : s.TypeIs (.bool b) "bool" := rfl
  have hr := rawHash_range (if b then 1 else 0)
  unfold pyHash
  have hv : [Value.bool b].any Value.onHeap = false := rfl
  refine wpAny_bind ?_
  rw [cRoomFor, if_neg (by rw [hv]; exact Bool.false_ne_true)]; refine wpAny_pure ?_
  refine wpAny_bind (wpAny_specialOf hT PySem.F.slot_bool_hash.lookup ?_)
  show wpAny _ _ (if (some (Value.builtin "int.__hash__") == some Value.none) = true then _ else _) Q E s
  rw [if_neg (by rw [beq_builtin_none]; exact Bool.false_ne_true)]
  refine wpAny_bind (wpAny_specialOf hT PySem.F.slot_bool_hash.lookup ?_)
  show wpAny _ _ (callSpecialIfBoundUnlessNone? (.bool b) "__hash__" _ >>= _) Q E s
  refine wpAny_bind (wpAny_callSpecialIfBoundUnlessNone?_slot hT PySem.F.slot_bool_hash
    (wpAny_call_entry PySem.F.slot_bool_hash hT entry_int_hash
      (show wpAny _ _ (do ret (← mkInt (rawHash (if b then 1 else 0)))) _ _ s from wpAny_ret_mkInt ?_) (args_int_hash _)))
  show wpAny _ _ (if (decide (-(2 : Int) ^ 63 ≤ rawHash (if b then 1 else 0)) && decide (rawHash (if b then 1 else 0) < 2 ^ 63)) = true then _ else _) Q E _
  rw [if_pos (by rw [decide_eq_true hr.1, decide_eq_true hr.2]; rfl)]
  exact wpAny_pure h
end
theorem key_shape {v : Value} {k : PKey} (h : (er v).key = some k) : (∃ i t, v = .int i t ∧ k = .num i) ∨ (∃ b, v = .bool b ∧ k = .num (if b then 1 else 0)) ∨ ∃ x t, v = .str x t ∧ k = .str x := by
  cases v <;> simp_all [er, AV.key]
/-- ints, bools and texts as keys -/
theorem dec_num' (a b : Int) : (a == b) = decide (PKey.num a = PKey.num b) := by
  by_cases q : a = b
  · subst q; rw [beq_self_eq_true, decide_eq_true rfl]
  · rw [beq_eq_false_iff_ne.mpr q, decide_eq_false fun e => q (PKey.num.inj e)]
theorem dec_str' (a b : Str) : (a == b) = decide (PKey.str a = PKey.str b) := by
  by_cases q : a = b
  · subst q; rw [beq_self_eq_true, decide_eq_true rfl]
  · rw [beq_eq_false_iff_ne.mpr q, decide_eq_false fun e => q (PKey.str.inj e)]
noncomputable def pk (prog : Program) (w : World) : KeyKind prog w PKey where
  is := fun k v => decide ((er v).key = some k)
  hash := PKey.hash w
  inj := fun v a b ha hb => by
    have h1 := of_decide_eq_true ha
    have h2 := of_decide_eq_true hb
    rw [h1] at h2; exact Option.some.inj h2
  byValue := fun k v h => by
    rcases key_shape (of_decide_eq_true h) with ⟨i, t, rfl, _⟩ | ⟨b, rfl, _⟩ | ⟨x, t, rfl, _⟩ <;> rfl
  pyHash := fun {A E s k v Q} hv h => by
    rcases key_shape (of_decide_eq_true hv) with ⟨i, t, rfl, rfl⟩ | ⟨b, rfl, rfl⟩ | ⟨x, t, rfl, rfl⟩
    · exact wpAny_pyHash_int h
    · exact pyHash_bool h
    · exact wpAny_pyHash_str h
  eqBool := fun {A E s a b u v Q} hu hv h => by
    rcases key_shape (of_decide_eq_true hu) with ⟨i, t, rfl, rfl⟩ | ⟨b, rfl, rfl⟩ | ⟨x, t, rfl, rfl⟩ <;> rcases key_shape (of_decide_eq_true hv) with ⟨j, t', rfl, rfl⟩ | ⟨b', rfl, rfl⟩ | ⟨x', t', rfl, rfl⟩
    · refine EqAt.int_int i t j t' prog w E Q ?_
      rw [dec_num']; exact h
    · refine EqAt.int_bool i t b' prog w E Q ?_
      rw [dec_num']; exact h
    · refine EqAt.int_str i t x' t' prog w E Q ?_
      simpa using h
    · refine EqAt.bool_int b j t' prog w E Q ?_
      rw [dec_num']; exact h
    · refine EqAt.bool_bool b b' prog w E Q ?_
      have : (b == b') = decide (PKey.num (if b then 1 else 0) = PKey.num (if b' then 1 else 0)) := by cases b <;> cases b' <;> decide
      rw [this]; exact h
    · refine EqAt.bool_str b x' t' prog w E Q ?_
      simpa using h
    · refine EqAt.str_int x t j t' prog w E Q ?_
      simpa using h
    · refine EqAt.str_bool x t b' prog w E Q ?_
      simpa using h
    · refine EqAt.str_str x t x' t' prog w E Q ?_
      have : (x == x') = decide (PKey.str x = PKey.str x') := by by_cases q : x = x' <;> simp [q]
      rw [this]; exact h
  «strs» := fun k x t v h => by
    have h1 := of_decide_eq_true h
    have : k = .str x := (Option.some.inj h1).symm
    subst this
    cases v <;> simp [er, AV.key, Value.isStr]
    rename_i s' _
    by_cases q : s' = x <;> simp [q]
end Mine
end
section
namespace Mine
noncomputable def kidx (es : List (AV × AV)) (k : PKey) : Option Nat := es.findIdx? fun e => decide (e.1.key = some k)
noncomputable def dget (es : List (AV × AV)) (k : PKey) : Option AV := (es.find? fun e => decide (e.1.key = some k)).map (·.2)
noncomputable def dput (es : List (AV × AV)) (k : PKey) (key v : AV) : List (AV × AV) := match kidx es k with
  | some i => es.modify i fun e => (e.1, v)
  | none => es ++ [(key, v)]
section
variable {w : World}
theorem rel_len {ds : List DictEntry} {es : List (AV × AV)} (h : Rel2 (entryOk w) ds es) : ds.length = es.length :=
  Rel2.ind (R := entryOk w) (P := fun ds es => ds.length = es.length) rfl (fun _ _ _ _ _ _ ih => congrArg Nat.succ ih) ds es h
theorem is_of {prog : Program} {k : PKey} {d : DictEntry} {e : AV × AV} (h : entryOk w d e) : (pk prog w).is k d.key = decide (e.1.key = some k) := by show decide ((er d.key).key = some k) = _; rw [h.1]
theorem rel_idx {prog : Program} {k : PKey} {ds : List DictEntry} {es : List (AV × AV)} (h : Rel2 (entryOk w) ds es) : ds.findIdx? (fun e => (pk prog w).is k e.key) = kidx es k :=
  Rel2.ind (R := entryOk w) (P := fun ds es => ds.findIdx? (fun e => (pk prog w).is k e.key) = kidx es k) rfl (fun d ds e es h hr ih => by
    unfold kidx at ih ⊢
    rw [List.findIdx?_cons, List.findIdx?_cons, ih, is_of h]) ds es h
theorem rel_find {prog : Program} {k : PKey} {ds : List DictEntry} {es : List (AV × AV)} (h : Rel2 (entryOk w) ds es) : (findBy (pk prog w).is ds.toArray k).map er = dget es k :=
  Rel2.ind (R := entryOk w) (P := fun ds es => (findBy (pk prog w).is ds.toArray k).map er = dget es k) rfl (fun d ds e es h hr ih => by
    unfold findBy dget at ih ⊢
    rw [List.find?_toArray] at ih ⊢
    rw [List.find?_cons, List.find?_cons, is_of h]
    cases decide (e.1.key = some k) with
    | true => exact congrArg some h.2.1
    | false => exact ih) ds es h
theorem rel_keys {prog : Program} {ds : List DictEntry} {es : List (AV × AV)} (h : Rel2 (entryOk w) ds es) : KeysOf (pk prog w) ds.toArray := fun x hx =>
  Rel2.ind (R := entryOk w) (P := fun ds _ => ∀ x ∈ ds, ∃ k, (pk prog w).is k x.key = true ∧ x.hash = (pk prog w).hash k) (fun e he => (nomatch he)) (fun d ds e es h hr ih x hx => by
    rcases List.mem_cons.mp hx with rfl | hx'
    · obtain ⟨k, h3, h4⟩ := h.2.2
      exact ⟨k, decide_eq_true (by rw [h.1]; exact h3), h4⟩
    · exact ih x hx') ds es h x (by simpa using hx)
theorem rel_modify {v : Value} {ds : List DictEntry} {es : List (AV × AV)} (i : Nat) (h : Rel2 (entryOk w) ds es) : Rel2 (entryOk w) (ds.modify i fun e => { e with val := v }) (es.modify i fun e => (e.1, er v)) :=
  Rel2.ind (R := entryOk w) (P := fun ds es => ∀ i, Rel2 (entryOk w) (ds.modify i fun e => { e with val := v }) (es.modify i fun e => (e.1, er v))) (fun i => by cases i <;> exact trivial) (fun d ds e es h hr ih i => by
    cases i with
    | zero => exact ⟨⟨h.1, rfl, h.2.2⟩, hr⟩
    | succ i => rw [List.modify_succ_cons, List.modify_succ_cons]; exact ⟨h, ih i⟩) ds es h i
theorem rel_push {e : DictEntry} {kv : AV × AV} (he : entryOk w e kv) {ds : List DictEntry} {es : List (AV × AV)} (h : Rel2 (entryOk w) ds es) : Rel2 (entryOk w) (ds ++ [e]) (es ++ [kv]) :=
  Rel2.ind (R := entryOk w) (P := fun ds es => Rel2 (entryOk w) (ds ++ [e]) (es ++ [kv])) ⟨he, trivial⟩ (fun _ _ _ _ h _ ih => ⟨h, ih⟩) ds es h
end
theorem map_modify_fst {v : AV} : ∀ (es : List (AV × AV)) (i : Nat), (es.modify i fun e => (e.1, v)).map (·.1.key) = es.map (·.1.key)
  | [], i => by cases i <;> rfl
  | _ :: _, 0 => rfl
  | _ :: es, i + 1 => by rw [List.modify_succ_cons]; simp only [List.map_cons]; rw [map_modify_fst es i]
theorem kidx_none {es : List (AV × AV)} {k : PKey} (h : kidx es k = none) : some k ∉ es.map (·.1.key) := by
  intro hm
  obtain ⟨e, he, q⟩ := List.mem_map.mp hm
  unfold kidx at h
  have := List.findIdx?_eq_none_iff.mp h e he
  simp [q] at this
theorem dput_nodup {es : List (AV × AV)} {k : PKey} {key v : AV} (hk : key.key = some k) (h : (es.map (·.1.key)).Nodup) : ((dput es k key v).map (·.1.key)).Nodup := by
  unfold dput
  cases e : kidx es k with
  | some i => dsimp only; rw [map_modify_fst]; exact h
  | none =>
    dsimp only
    rw [List.map_append, List.map_cons, List.map_nil]
    refine List.nodup_append.mpr ⟨h, by simp, fun a ha b hb => ?_⟩
    rw [List.mem_singleton.mp hb, hk]
    exact fun q => kidx_none e (q ▸ ha)
theorem dput_len (es : List (AV × AV)) (k : PKey) (key v : AV) : (dput es k key v).length ≤ es.length + 1 := by
  unfold dput; split <;> simp
section
variable {K : Params → Frag} {n : Nat} {c : Cx} {E : Value → Loc → Led → Prop} {m : Loc} {σ : Led} {env : Env} {d : Addr} {es : List (AV × AV)} {ep : Nat} {k : PKey} {key : Value}
theorem dict_map {φ : Led} {h : Heap} (hA : At c.w c.B ((c.L, m) :: c.fs) h (σ.un φ)) (hd : σ d = some (.dict es ep)) : ∃ f, h.MapOf (pk c.prog c.w) d f ∧ ∀ k, (f k).map er = dget es k := by
  obtain ⟨o, ho, hx, ds, hdat, hr, hn⟩ := hA.led d _ (Led.un_left hd)
  exact ⟨_, ⟨o, ds.toArray, ep, ho, hx, hdat, rel_keys hr, fun _ => rfl⟩, fun k => rel_find hr⟩
theorem W_getItemDict {av : AV} {Q : Value → Loc → Led → Prop} (hd : σ d = some (.dict es ep)) (hk : (er key).key = some k) (hv : dget es k = some av) (h : ∀ v, er v = av → Q v m σ) : W c (getItem (.ref d) key) Q E m σ := fun φ s hd' hA => by
  obtain ⟨f, hm, hf⟩ := dict_map hA hd
  have e := hf k
  rw [hv] at e
  cases q : f k with
  | none => rw [q] at e; cases e
  | some v => rw [q] at e; exact wpAny_getItem_of (decide_eq_true hk) hm q (PQ.here hd' hA (h v (Option.some.inj e)))
theorem ne_mods (G : Good K n c) (hA : ∃ φ h, At c.w c.B ((c.L, m) :: c.fs) h (σ.un φ)) (hd : σ d = some (.dict es ep)) : (d == sysModules) = false := by
  obtain ⟨φ, h, hA⟩ := hA
  obtain ⟨o, ho⟩ := G.mods
  refine beq_eq_false_iff_ne.mpr fun e => ?_
  rw [← e, hA.new d _ (Led.un_left hd)] at ho; cases ho
theorem W_inDict {Q : Value → Loc → Led → Prop} (G : Good K n c) (hd : σ d = some (.dict es ep)) (hk : (er key).key = some k) (h : Q (.bool (dget es k).isSome) m σ) : W c (compareOp .In key (.ref d)) Q E m σ := fun φ s hd' hA => by
  obtain ⟨f, hm, hf⟩ := dict_map hA hd
  refine wpAny_in_of (decide_eq_true hk) (ne_mods G ⟨φ, _, hA⟩ hd) hm ?_
  have : (f k).isSome = (dget es k).isSome := by rw [← hf k]; cases f k <;> rfl
  rw [this]; exact PQ.here hd' hA h
theorem W_getMethod_dict {name : Str} {id : String} {pl : Sem Bool} {Q : Value × List Value → Loc → Led → Prop} (slot : Slot "dict" name id) (hty : typeOf (.builtin id) = pure (.type "method_descriptor")) (hd : σ d = some (.dict es ep)) (h : Q (.builtin id, [.ref d]) m σ) :
    W c (getMethod (.ref d) name pl) Q E m σ := fun φ s hd' hA => by
  obtain ⟨o, ho, hx, _⟩ := hA.led d _ (Led.un_left hd)
  exact getMethod_builtin ⟨_, ho, hx.1⟩ PySem.F.plainAttrs_dict slot hty (fun a e => by cases e; exact ⟨_, ho, hx.2.1⟩) ⟨s.heap, s.toks, m, σ, rfl, hd', hA, h⟩
theorem W_dictGet {Q : Value → Loc → Led → Prop} (G : Good K n c) (hd : σ d = some (.dict es ep)) (hk : (er key).key = some k) (h : ∀ v, er v = (dget es k).getD .none → Q v m σ) : W c (call (.builtin "dict.get") [.ref d, key]) Q E m σ := fun φ s hd' hA => by
  obtain ⟨f, hm, hf⟩ := dict_map hA hd
  refine call_meetsIn PySem.F.slot_dict_get hm.typeIs PySem.F.entry_dict_get (PySem.F.args_dict_get_2 _ _) (meets_dict_get (pk c.prog c.w) d (decide_eq_true hk) (ne_mods G ⟨φ, _, hA⟩ hd)) ⟨f, hm, PQ.here hd' hA (h _ ?_)⟩
  rw [← hf k]; cases f k <;> rfl
theorem W_setItemDict {v : Value} {Q : Unit → Loc → Led → Prop} (hd : σ d = some (.dict es ep)) (hk : (er key).key = some k) (hz : es.length ≤ sizeLine) (h : ∀ ep', Q () m (σ.set d (.dict (dput es k (er key) (er v)) ep'))) : W c (setItem (.ref d) key v) Q E m σ := fun φ s hd' hA => by
  obtain ⟨o, ho, hx, ds, hdat, hr, hn⟩ := hA.led d _ (Led.un_left hd)
  have hT : s.TypeIs (.ref d) "dict" := ⟨o, ho, hx.1⟩
  have hkey : (pk c.prog c.w).is k key = true := decide_eq_true hk
  unfold setItem
  try with_reducible refine wpAny_holding ?_
  refine wpAny_bind (wpAny_sequenceKey hT (by decide) ?_)
  refine wpAny_bind (wpAny_callSpecial?_slot (name := Str.ofString "__setitem__") hT slot_dict_setitem
    (wpAny_call_entry slot_dict_setitem hT entry_dict_setitem ?_ (args_dict_setitem _ _ _)))
  show wpAny _ _ (Builtin.Dict.notOrdered "__setitem__" ⟨[.ref d, key, v], []⟩ >>= _) _ _ s
  refine wpAny_bind (wpAny_notOrdered_dict hT ?_)
  show wpAny _ _ (dictSet d key v >>= _) _ _ s
  refine wpAny_bind ?_
  unfold dictSet
  try with_reducible refine wpAny_holding ?_
  refine wpAny_bind ((pk c.prog c.w).pyHash hkey ?_)
  unfold dictSetHashed
  try with_reducible refine wpAny_holding ?_
  refine wpAny_bind (wpAny_dictFind_of (s := { s with toks := s.toks + 1 }) hkey ho hdat (rel_keys hr) ?_)
  rw [List.findIdx?_toArray, rel_idx hr]
  have hnd : ((dput es k (er key) (er v)).map (·.1.key)).Nodup := dput_nodup hk hn
  have hdef : dput es k (er key) (er v) = match kidx es k with | some i => es.modify i fun e => (e.1, er v) | none => es ++ [(er key, er v)] := rfl
  cases hi : kidx es k with
  | some i =>
    rw [hi] at hdef
    refine wpAny_bind (wpAny_rule (wpAny_bind (wpAny_updateDict (s := { s with toks := s.toks + 1 }) ho hdat (wpAny_point (wpAny_pure ⟨.none, rfl, wpAny_pure (PQ.upd (ao := .dict (dput es k (er key) (er v)) ep) hd' hA hd (Heap.SameBut.update ..) (Heap.get?_update_self _ ho (Obj.isFreed_of_dict (Obj.data_mapDict hdat _)))
      ⟨hx.mapDict _, ds.modify i fun e => { e with val := v }, ?_, by rw [hdef]; exact rel_modify i hr, hnd⟩ (h ep))⟩)))))
    rw [Obj.data_mapDict hdat]; simp
  | none =>
    rw [hi] at hdef
    refine wpAny_bind (wpAny_rule (wpAny_updateDictKeys (hz := ?_) (s := { s with toks := s.toks + 1 }) ho hdat (wpAny_pure ⟨.none, rfl, wpAny_pure (PQ.upd (ao := .dict (dput es k (er key) (er v)) (ep + 1)) hd' hA hd (Heap.SameBut.update ..) (Heap.get?_update_self _ ho (Obj.isFreed_of_dict (Obj.data_mapDictKeys hdat _)))
      ⟨hx.mapDictKeys _, ds ++ [⟨(pk c.prog c.w).hash k, key, v⟩], ?_, by rw [hdef]; exact rel_push ⟨rfl, rfl, k, hk, rfl⟩ hr, hnd⟩ (h (ep + 1)))⟩)))
    · rw [Obj.data_mapDictKeys hdat]; simp
    · rw [List.size_toArray, rel_len hr]; exact hz
theorem W_newDict {Q : Value → Loc → Led → Prop} {pos : Pos} (h : ∀ a, σ a = none → Q (.ref a) m (σ.set a (.dict [] 0))) : W c (eval (.Dict [] [] pos) env) Q E m σ := fun φ s hd hA => by
  rw [eval_Dict_empty]
  refine wpAny_bind (wpAny_standAt ?_)
  show wpAny _ _ (newObj (.type "dict") (.dict #[])) _ _ _
  exact wpAny_newObj_type (T := "dict") (PQ.new (ao := .dict [] 0) (a := s.heap.objs.size) (tk := s.toks) hd hA (fun b o e => Heap.get?_push_of_some _ e) (Heap.get?_push_size _ rfl) ⟨⟨rfl, rfl, rfl⟩, [], rfl, trivial, List.nodup_nil⟩ (Nat.le_refl _) (h _))
end
end Mine
end
section
namespace Mine
/-- a node of a sorter: what it is told as, where its record lies, the record's dict, the list of its successors; how many it waits for; who waits for it -/
structure NI where
  node : AV
  a : Addr
  dx : Addr
  s : Addr
  np : Int
  su : List AV
noncomputable def sattrs (d : Addr) (rd : Option (Addr × List AV)) (p f : Int) : List (Str × AV) :=
  [("_node2info", .ref d), ("_ready_nodes", match rd with | none => .none | some (r, _) => .ref r), ("_npassedout", .int p), ("_nfinished", .int f)]
/-- the ledger bears a sorter at x -/
structure SC (nc tc : Addr) (σ : Led) (x dx d : Addr) (ep : Nat) (ns : List NI) (rd : Option (Addr × List AV)) (p f : Int) : Prop where
  hx : σ x = some (.exact (instObj tc dx))
  hdx : σ dx = some (.attrs (sattrs d rd p f))
  hd : σ d = some (.dict (ns.map fun n => (n.node, .ref n.a)) ep)
  hn : ∀ n ∈ ns, σ n.a = some (.slots nc n.dx [n.node, .int n.np, .ref n.s]) ∧ σ n.dx = some (.attrs []) ∧ σ n.s = some (.list n.su)
  hr : ∀ r l, rd = some (r, l) → σ r = some (.list l) ∧ r ∉ ns.map (·.s)
  as : (ns.map (·.a)).Nodup
  ss : (ns.map (·.s)).Nodup
  ks : ∀ n ∈ ns, ∃ k, n.node.key = some k
  kn : (ns.map (·.node.key)).Nodup
theorem dget_nodes_some {ns : List NI} {n : NI} {k : PKey} (kn : (ns.map (·.node.key)).Nodup) (hn : n ∈ ns) (hk : n.node.key = some k) : dget (ns.map fun n => (n.node, AV.ref n.a)) k = some (.ref n.a) := by
  induction ns with
  | nil => cases hn
  | cons e ns ih =>
    rw [List.map_cons, List.nodup_cons] at kn
    unfold dget
    rw [List.map_cons, List.find?_cons]
    rcases List.mem_cons.mp hn with rfl | hn
    · simp [hk]
    · have : e.node.key ≠ some k := fun q => kn.1 (List.mem_map.mpr ⟨n, hn, hk.trans q.symm⟩)
      simp only [this, decide_false]
      exact ih kn.2 hn
theorem dget_nodes_none {ns : List NI} {k : PKey} (h : ∀ n ∈ ns, n.node.key ≠ some k) : dget (ns.map fun n => (n.node, AV.ref n.a)) k = none := by
  induction ns with
  | nil => rfl
  | cons e ns ih =>
    unfold dget
    rw [List.map_cons, List.find?_cons]
    simp only [h e (.head _), decide_false]
    exact ih fun n hn => h n (.tail _ hn)
theorem kidx_nodes_none {ns : List NI} {k : PKey} (h : ∀ n ∈ ns, n.node.key ≠ some k) : kidx (ns.map fun n => (n.node, AV.ref n.a)) k = none := by
  unfold kidx
  refine List.findIdx?_eq_none_iff.mpr fun e he => ?_
  obtain ⟨n, hn, rfl⟩ := List.mem_map.mp he
  simpa using h n hn
variable {nc tc : Addr} {σ σ' : Led} {x dx d : Addr} {ep : Nat} {ns : List NI} {rd : Option (Addr × List AV)} {p f : Int}
/-- what is not the sorter's may come and go -/
theorem SC.mono (S : SC nc tc σ x dx d ep ns rd p f) (h : ∀ b o, σ b = some o → σ' b = some o) : SC nc tc σ' x dx d ep ns rd p f :=
  ⟨h _ _ S.hx, h _ _ S.hdx, h _ _ S.hd, fun n hn => ⟨h _ _ (S.hn n hn).1, h _ _ (S.hn n hn).2.1, h _ _ (S.hn n hn).2.2⟩, fun r l e => ⟨h _ _ (S.hr r l e).1, (S.hr r l e).2⟩, S.as, S.ss, S.ks, S.kn⟩
/-- a new node -/
theorem SC.push (S : SC nc tc σ x dx d ep ns rd p f) {v : AV} {k : PKey} {a dxn s : Addr} {ep' : Nat} (hk : v.key = some k) (hno : ∀ n ∈ ns, n.node.key ≠ some k)
    (h : ∀ b o, b ≠ d → σ b = some o → σ' b = some o) (ha : σ a = none) (hs : σ s = none) (h1 : σ' a = some (.slots nc dxn [v, .int 0, .ref s])) (h2 : σ' dxn = some (.attrs [])) (h3 : σ' s = some (.list []))
    (h4 : σ' d = some (.dict (ns.map (fun n => (n.node, .ref n.a)) ++ [(v, .ref a)]) ep')) : SC nc tc σ' x dx d ep' (ns ++ [⟨v, a, dxn, s, 0, []⟩]) rd p f := by
  have nd : ∀ {b o}, σ b = some o → (∀ es e, o ≠ .dict es e) → σ' b = some o := fun {b o} e q => h b o (fun r => by rw [r, S.hd] at e; cases e; exact q _ _ rfl) e
  refine ⟨nd S.hx (by simp), nd S.hdx (by simp), by rw [h4, List.map_append]; rfl, fun n hn => ?_, fun r l e => ⟨nd (S.hr r l e).1 (by simp), ?_⟩, ?_, ?_, fun n hn => ?_, ?_⟩
  · rcases List.mem_append.mp hn with hn | hn
    · exact ⟨nd (S.hn n hn).1 (by simp), nd (S.hn n hn).2.1 (by simp), nd (S.hn n hn).2.2 (by simp)⟩
    · rw [List.mem_singleton.mp hn]; exact ⟨h1, h2, h3⟩
  · rw [List.map_append]
    intro q
    rcases List.mem_append.mp q with q | q
    · exact (S.hr r l e).2 q
    · have q' : r = s := List.mem_singleton.mp q
      have := (S.hr _ l e).1
      rw [q', hs] at this; cases this
  · rw [List.map_append]
    refine List.nodup_append.mpr ⟨S.as, by simp, fun b hb b' hb' q => ?_⟩
    obtain ⟨n, hn, rfl⟩ := List.mem_map.mp hb
    have q' : n.a = a := q.trans (List.mem_singleton.mp hb')
    have := (S.hn n hn).1
    rw [q', ha] at this; cases this
  · rw [List.map_append]
    refine List.nodup_append.mpr ⟨S.ss, by simp, fun b hb b' hb' q => ?_⟩
    obtain ⟨n, hn, rfl⟩ := List.mem_map.mp hb
    have q' : n.s = s := q.trans (List.mem_singleton.mp hb')
    have := (S.hn n hn).2.2
    rw [q', hs] at this; cases this
  · rcases List.mem_append.mp hn with hn | hn
    · exact S.ks n hn
    · rw [List.mem_singleton.mp hn]; exact ⟨k, hk⟩
  · rw [List.map_append]
    refine List.nodup_append.mpr ⟨S.kn, by simp, fun b hb b' hb' q => ?_⟩
    obtain ⟨n, hn, rfl⟩ := List.mem_map.mp hb
    have q' : n.node.key = v.key := q.trans (List.mem_singleton.mp hb')
    exact hno n hn (q'.trans hk)
theorem Led.set_other {σ : Led} {a b : Addr} {o₁ o₂ o' : AO} (ha : σ a = some o₁) (hb : σ b = some o₂) (h : o₁ ≠ o₂) : σ.set a o' b = some o₂ :=
  (Led.set_ne fun e => h (by rw [e, ha] at hb; exact Option.some.inj hb)).trans hb
theorem NI.eq_of_a {ns : List NI} (h : (ns.map (·.a)).Nodup) {n n' : NI} (hn : n ∈ ns) (hn' : n' ∈ ns) (e : n.a = n'.a) : n = n' := by
  induction ns with
  | nil => cases hn
  | cons q ns ih =>
    rw [List.map_cons, List.nodup_cons] at h
    rcases List.mem_cons.mp hn with rfl | h1 <;> rcases List.mem_cons.mp hn' with rfl | h2
    · rfl
    · exact (h.1 (List.mem_map.mpr ⟨n', h2, e.symm⟩)).elim
    · exact (h.1 (List.mem_map.mpr ⟨n, h1, e⟩)).elim
    · exact ih h.2 h1 h2
theorem NI.eq_of_s {ns : List NI} (h : (ns.map (·.s)).Nodup) {n n' : NI} (hn : n ∈ ns) (hn' : n' ∈ ns) (e : n.s = n'.s) : n = n' := by
  induction ns with
  | nil => cases hn
  | cons q ns ih =>
    rw [List.map_cons, List.nodup_cons] at h
    rcases List.mem_cons.mp hn with rfl | h1 <;> rcases List.mem_cons.mp hn' with rfl | h2
    · rfl
    · exact (h.1 (List.mem_map.mpr ⟨n', h2, e.symm⟩)).elim
    · exact (h.1 (List.mem_map.mpr ⟨n, h1, e⟩)).elim
    · exact ih h.2 h1 h2
theorem NI.eq_of_k {ns : List NI} (h : (ns.map (·.node.key)).Nodup) {n n' : NI} (hn : n ∈ ns) (hn' : n' ∈ ns) (e : n.node.key = n'.node.key) : n = n' := by
  induction ns with
  | nil => cases hn
  | cons q ns ih =>
    rw [List.map_cons, List.nodup_cons] at h
    rcases List.mem_cons.mp hn with rfl | h1 <;> rcases List.mem_cons.mp hn' with rfl | h2
    · rfl
    · exact (h.1 (List.mem_map.mpr ⟨n', h2, e.symm⟩)).elim
    · exact (h.1 (List.mem_map.mpr ⟨n, h1, e⟩)).elim
    · exact ih h.2 h1 h2
/-- the node of key k turned by g -/
noncomputable def updN (k : PKey) (g : NI → NI) (ns : List NI) : List NI := ns.map fun n => if n.node.key = some k then g n else n
theorem updN_map {β : Type} {k : PKey} {g : NI → NI} (q : NI → β) (h : ∀ n, q (g n) = q n) (ns : List NI) : (updN k g ns).map q = ns.map q := by
  unfold updN
  rw [List.map_map]
  refine List.map_congr_left fun n _ => ?_
  show q (if n.node.key = some k then g n else n) = q n
  split
  · exact h n
  · rfl
theorem mem_updN {k : PKey} {g : NI → NI} {ns : List NI} {n : NI} (h : n ∈ updN k g ns) : ∃ n', n' ∈ ns ∧ n = if n'.node.key = some k then g n' else n' := by
  obtain ⟨n', h1, h2⟩ := List.mem_map.mp h
  exact ⟨n', h1, h2.symm⟩
theorem SC.setNp (S : SC nc tc σ x dx d ep ns rd p f) {n : NI} {k : PKey} (hn : n ∈ ns) (hk : n.node.key = some k) (i : Int) :
    SC nc tc (σ.set n.a (.slots nc n.dx [n.node, .int i, .ref n.s])) x dx d ep (updN k (fun n => { n with np := i }) ns) rd p f := by
  have ha := (S.hn n hn).1
  have oth : ∀ {b o}, σ b = some o → (∀ a b c, o ≠ .slots a b c) → σ.set n.a (.slots nc n.dx [n.node, .int i, .ref n.s]) b = some o := fun e q => Led.set_other ha e fun r => q _ _ _ r.symm
  have um : ∀ {β : Type} (q : NI → β), (∀ n, q ((fun n => { n with np := i }) n) = q n) → (updN k (fun n => { n with np := i }) ns).map q = ns.map q := fun q h => updN_map q h ns
  refine ⟨oth S.hx (by simp), oth S.hdx (by simp), by rw [um (fun n => (n.node, AV.ref n.a)) (fun _ => rfl)]; exact oth S.hd (by simp), fun n' hn' => ?_, fun r l e => ⟨oth (S.hr r l e).1 (by simp), by rw [um (·.s) (fun _ => rfl)]; exact (S.hr r l e).2⟩,
    by rw [um (·.a) (fun _ => rfl)]; exact S.as, by rw [um (·.s) (fun _ => rfl)]; exact S.ss, fun n' hn' => ?_, by rw [um (fun n => n.node.key) (fun _ => rfl)]; exact S.kn⟩
  · obtain ⟨n₀, h0, rfl⟩ := mem_updN hn'
    by_cases q : n₀.node.key = some k
    · rw [if_pos q]
      obtain rfl := NI.eq_of_k S.kn h0 hn (q.trans hk.symm)
      exact ⟨Led.set_self, oth (S.hn _ h0).2.1 (by simp), oth (S.hn _ h0).2.2 (by simp)⟩
    · rw [if_neg q]
      have hne : n₀.a ≠ n.a := fun e => q (NI.eq_of_a S.as h0 hn e ▸ hk)
      exact ⟨(Led.set_ne hne).trans (S.hn _ h0).1, oth (S.hn _ h0).2.1 (by simp), oth (S.hn _ h0).2.2 (by simp)⟩
  · obtain ⟨n₀, h0, rfl⟩ := mem_updN hn'
    obtain ⟨k', e⟩ := S.ks n₀ h0
    exact ⟨k', by split <;> exact e⟩
theorem SC.setSu (S : SC nc tc σ x dx d ep ns rd p f) {n : NI} {k : PKey} (hn : n ∈ ns) (hk : n.node.key = some k) (su : List AV) :
    SC nc tc (σ.set n.s (.list su)) x dx d ep (updN k (fun n => { n with su := su }) ns) rd p f := by
  have hs := (S.hn n hn).2.2
  have oth : ∀ {b o}, σ b = some o → (∀ a, o ≠ .list a) → σ.set n.s (.list su) b = some o := fun e q => Led.set_other hs e fun r => q _ r.symm
  have um : ∀ {β : Type} (q : NI → β), (∀ n, q ((fun n => { n with su := su }) n) = q n) → (updN k (fun n => { n with su := su }) ns).map q = ns.map q := fun q h => updN_map q h ns
  refine ⟨oth S.hx (by simp), oth S.hdx (by simp), by rw [um (fun n => (n.node, AV.ref n.a)) (fun _ => rfl)]; exact oth S.hd (by simp), fun n' hn' => ?_, fun r l e => ⟨?_, by rw [um (·.s) (fun _ => rfl)]; exact (S.hr r l e).2⟩,
    by rw [um (·.a) (fun _ => rfl)]; exact S.as, by rw [um (·.s) (fun _ => rfl)]; exact S.ss, fun n' hn' => ?_, by rw [um (fun n => n.node.key) (fun _ => rfl)]; exact S.kn⟩
  · obtain ⟨n₀, h0, rfl⟩ := mem_updN hn'
    by_cases q : n₀.node.key = some k
    · rw [if_pos q]
      obtain rfl := NI.eq_of_k S.kn h0 hn (q.trans hk.symm)
      exact ⟨oth (S.hn _ h0).1 (by simp), oth (S.hn _ h0).2.1 (by simp), Led.set_self⟩
    · rw [if_neg q]
      have hne : n₀.s ≠ n.s := fun e => q (NI.eq_of_s S.ss h0 hn e ▸ hk)
      exact ⟨oth (S.hn _ h0).1 (by simp), oth (S.hn _ h0).2.1 (by simp), (Led.set_ne hne).trans (S.hn _ h0).2.2⟩
  · exact (Led.set_ne fun q => (S.hr r l e).2 (List.mem_map.mpr ⟨n, hn, q.symm⟩)).trans (S.hr r l e).1
  · obtain ⟨n₀, h0, rfl⟩ := mem_updN hn'
    obtain ⟨k', e⟩ := S.ks n₀ h0
    exact ⟨k', by split <;> exact e⟩
/-! the same without addresses -/
structure PN where
  node : AV
  np : Int
  su : List AV
noncomputable def NI.pn (n : NI) : PN := ⟨n.node, n.np, n.su⟩
noncomputable def ensP (k : PKey) (v : AV) (ps : List PN) : List PN := if ps.any (fun n => decide (n.node.key = some k)) then ps else ps ++ [⟨v, 0, []⟩]
noncomputable def updP (k : PKey) (g : PN → PN) (ps : List PN) : List PN := ps.map fun n => if n.node.key = some k then g n else n
theorem updN_pn {k : PKey} {g : NI → NI} {g' : PN → PN} (ns : List NI) (h : ∀ n ∈ ns, n.node.key = some k → (g n).pn = g' n.pn) : (updN k g ns).map NI.pn = updP k g' (ns.map NI.pn) := by
  unfold updN updP
  rw [List.map_map, List.map_map]
  refine List.map_congr_left fun n hn => ?_
  show NI.pn (if n.node.key = some k then g n else n) = if n.pn.node.key = some k then g' n.pn else n.pn
  by_cases q : n.node.key = some k
  · rw [if_pos q, if_pos (show n.pn.node.key = some k from q)]; exact h n hn q
  · rw [if_neg q, if_neg (show ¬ n.pn.node.key = some k from q)]
theorem ensP_old {k : PKey} {v : AV} {ns : List NI} (h : ∃ n ∈ ns, n.node.key = some k) : ensP k v (ns.map NI.pn) = ns.map NI.pn := by
  obtain ⟨n, hn, hk⟩ := h
  unfold ensP
  rw [if_pos (List.any_eq_true.mpr ⟨n.pn, List.mem_map.mpr ⟨n, hn, rfl⟩, decide_eq_true hk⟩)]
theorem ensP_new {k : PKey} {v : AV} {ns : List NI} {n : NI} (h : ∀ n ∈ ns, n.node.key ≠ some k) (e : n.pn = ⟨v, 0, []⟩) : ensP k v (ns.map NI.pn) = (ns ++ [n]).map NI.pn := by
  unfold ensP
  rw [if_neg, List.map_append, List.map_cons, List.map_nil, e]
  intro q
  obtain ⟨m, hm, hk⟩ := List.any_eq_true.mp q
  obtain ⟨n', hn', rfl⟩ := List.mem_map.mp hm
  exact h n' hn' (of_decide_eq_true hk)
/-- what add does to the nodes -/
noncomputable def addStep (v : AV) (ps : List PN) (q : PKey × AV) : List PN := updP q.1 (fun n => { n with su := n.su ++ [v] }) (ensP q.1 q.2 ps)
noncomputable def addP (k : PKey) (v : AV) (ks : List (PKey × AV)) (ps : List PN) : List PN := ks.foldl (addStep v) (updP k (fun n => { n with np := n.np + ks.length }) (ensP k v ps))
theorem take_foldl_succ {α β : Type} {g : β → α → β} {l : List α} {i : Nat} {q : α} {b : β} (h : l[i]? = some q) : (l.take (i + 1)).foldl g b = g ((l.take i).foldl g b) q := by
  rw [List.take_add_one, h]; simp
noncomputable def suB (b : Nat) (ps : List PN) : Prop := ∀ n ∈ ps, n.su.length ≤ b
theorem suB_ens {b : Nat} {ps : List PN} {k : PKey} {v : AV} (h : suB b ps) : suB b (ensP k v ps) := fun n hn => by
  unfold ensP at hn
  split at hn
  · exact h n hn
  · rcases List.mem_append.mp hn with hn | hn
    · exact h n hn
    · rw [List.mem_singleton.mp hn]; exact Nat.zero_le _
theorem suB_upd {b b' : Nat} {ps : List PN} {k : PKey} {g : PN → PN} (h : suB b ps) (hb : b ≤ b') (hg : ∀ n : PN, n.su.length ≤ b → (g n).su.length ≤ b') : suB b' (updP k g ps) := fun n hn => by
  obtain ⟨n', hn', rfl⟩ := List.mem_map.mp hn
  split
  · exact hg _ (h _ hn')
  · exact Nat.le_trans (h _ hn') hb
theorem suB_step {b : Nat} {ps : List PN} {v : AV} {q : PKey × AV} (h : suB b ps) : suB (b + 1) (addStep v ps q) := suB_upd (suB_ens h) (Nat.le_succ _) fun n hn => by simpa using hn
theorem suB_le {b b' : Nat} {ps : List PN} (h : suB b ps) (hb : b ≤ b') : suB b' ps := fun n hn => Nat.le_trans (h n hn) hb
theorem suB_mem {b : Nat} {ns : List NI} {n : NI} (h : suB b (ns.map NI.pn)) (hn : n ∈ ns) : n.su.length ≤ b := h n.pn (List.mem_map.mpr ⟨n, hn, rfl⟩)
theorem suB_add {b : Nat} {ps : List PN} {k : PKey} {v : AV} {ks : List (PKey × AV)} (h : suB b ps) : suB (b + ks.length) (addP k v ks ps) := by
  unfold addP
  have h0 : suB b (updP k (fun n => { n with np := n.np + ks.length }) (ensP k v ps)) := suB_upd (suB_ens h) (Nat.le_refl _) fun n hn => hn
  generalize updP k (fun n => { n with np := n.np + ks.length }) (ensP k v ps) = ps' at h0
  clear h
  induction ks generalizing ps' b with
  | nil => exact h0
  | cons q r ih => rw [List.foldl_cons, List.length_cons, show b + (r.length + 1) = (b + 1) + r.length from by omega]; exact ih _ (suB_step h0)
/-- the ready list gets other items -/
theorem SC.setR {r : Addr} {l l' : List AV} (S : SC nc tc σ x dx d ep ns (some (r, l)) p f) : SC nc tc (σ.set r (.list l')) x dx d ep ns (some (r, l')) p f := by
  have hr := (S.hr r l rfl).1
  have oth : ∀ {b o}, σ b = some o → (∀ a, o ≠ .list a) → σ.set r (.list l') b = some o := fun e q => Led.set_other hr e fun r => q _ r.symm
  refine ⟨oth S.hx (by simp), oth S.hdx (by simp), oth S.hd (by simp), fun n hn => ⟨oth (S.hn n hn).1 (by simp), oth (S.hn n hn).2.1 (by simp), ?_⟩, fun r' l'' e => ?_, S.as, S.ss, S.ks, S.kn⟩
  · exact (Led.set_ne fun e => (S.hr r l rfl).2 (List.mem_map.mpr ⟨n, hn, e⟩)).trans (S.hn n hn).2.2
  · cases e; exact ⟨Led.set_self, (S.hr r l rfl).2⟩
/-- the counters, and the ready list itself -/
theorem SC.setA {rd' : Option (Addr × List AV)} {p' f' : Int} (S : SC nc tc σ x dx d ep ns rd p f) (hr : ∀ r l, rd' = some (r, l) → σ r = some (.list l) ∧ r ∉ ns.map (·.s)) (hdn : ∀ n ∈ ns, n.dx ≠ dx) : SC nc tc (σ.set dx (.attrs (sattrs d rd' p' f'))) x dx d ep ns rd' p' f' := by
  have oth : ∀ {b o}, σ b = some o → (∀ a, o ≠ .attrs a) → σ.set dx (.attrs (sattrs d rd' p' f')) b = some o := fun e q => Led.set_other S.hdx e fun r => q _ r.symm
  exact ⟨oth S.hx (by simp), Led.set_self, oth S.hd (by simp), fun n hn => ⟨oth (S.hn n hn).1 (by simp), (Led.set_ne (hdn n hn)).trans (S.hn n hn).2.1, oth (S.hn n hn).2.2 (by simp)⟩, fun r l e => ⟨oth (hr r l e).1 (by simp), (hr r l e).2⟩, S.as, S.ss, S.ks, S.kn⟩
theorem SC.dn (S : SC nc tc σ x dx d ep ns rd p f) : ∀ n ∈ ns, n.dx ≠ dx := fun n hn e => by
  have h1 := (S.hn n hn).2.1
  rw [e, S.hdx] at h1
  cases h1
/-- the nodes handed out -/
noncomputable def outP (l : List (PKey × AV)) (ps : List PN) : List PN := l.foldl (fun ps q => updP q.1 (fun n => { n with np := -1 }) ps) ps
end Mine
end
section
namespace Mine
section
variable {K : Params → Frag} {n : Nat} {c : Cx} {E : Value → Loc → Led → Prop} {m : Loc} {σ : Led} {env : Env} {x dx C : Addr} {es : List (Str × AV)} {name : Str}
/-- a method taken off an instance -/
theorem W_getBound {f : Addr} {expr : Bool} {Q : Value → Loc → Led → Prop} (G : Good K n c) (hx : σ x = some (.exact (instObj C dx))) (hd : σ dx = some (.attrs es)) (hl : es.lookup name = none) (hg : plainGet (K c.w.params) C name = true)
    (hh : hasDictIn (K c.w.params) C = true) (hf : findIn (K c.w.params) (.ref C) name = some (some (.ref f))) (ht : isFn (K c.w.params) (.ref f) = true) (hgf : specialIn (K c.w.params) (.ref f) "__get__" = some (some (.builtin "function.__get__")))
    (htk : takesIn (K c.w.params) (.ref f) = some false) (hc : copiedNames.contains name = false) (h : ∀ q, σ q = none → Q (.ref q) m (σ.set q (.exact (methodObj (.ref f) (.ref x))))) : W c (getAttr (.ref x) name expr) Q E m σ := fun φ s hd' hA => by
  obtain ⟨ds, k, I, hr⟩ := instAt_dict hA hx hd
  have X := G.X.keeps hA.keep
  refine get_bind X I (plainGet_of hg).1 (findObj_fn hh hf hgf htk hc (by show lookIn name (dictOf ds k) = _; rw [lookIn_dict, attrs_miss hr hl])) (plainGet_of hg).2
    (wpAny_call (fn_get (s := { s with toks := s.toks + 1 }) X (beq_iff_eq.mp ht) (handed_on rfl ?_)))
  exact PQ.new (a := s.heap.objs.size) (ao := .exact (methodObj (.ref f) (.ref x))) hd' hA (fun b o e => Heap.get?_push_of_some _ e) (Heap.get?_push_size _ rfl) rfl (Nat.le_refl _) (h _)
theorem W_callBound {q : Addr} {f self : Value} {vals : List Value} {Q : Value → Loc → Led → Prop} (hq : σ q = some (.exact (methodObj f self))) (h : WC c (.call f ⟨self :: vals, []⟩) Q E m σ) : W c (call (.ref q) vals) Q E m σ :=
  W_ofCode fun φ s hd hA => by
    obtain ⟨o, ho, rfl⟩ := hA.led q _ (Led.un_left hq)
    exact method_call ho (h φ s hd hA)
/-- a method called with a starred argument among its arguments -/
theorem W_CallStar {o : Expr} {apos pos : Pos} {args : List Expr} {Q : Value → Loc → Led → Prop}
    (h : W c (eval o env) (fun ov m σ => W c (getAttr ov name true) (fun f m σ => W c (callWith pos f [] (backTo pos (starEach args env)) []) Q E m σ) E m σ) E m σ)
    (hbase : attributeBase o name env (eval o env) = eval o env := by rfl)
    (hfew : methodCallForm (args.length + ([] : List Keyword).length) (backTo pos (starEach args env)) (backToKw pos (keywordEach [] env)) = false := by rfl) : W c (eval (.Call (.Attribute o name apos) args [] pos) env) Q E m σ := by
  rw [arm_eval_Call, hbase]
  refine W_bind (W_mono h (fun ov m σ h₁ => W_bind (W_standAt ?_)) fun _ _ _ x => x)
  have hpos : methodCallPos false o env apos pos = pure pos := by unfold methodCallPos; simp
  unfold methodCall
  rw [hfew]
  refine W_bind (W_holding ?_)
  unfold calleeOf
  rw [if_neg (by decide)]
  refine W_bind (W_mono h₁ (fun f m σ h₂ => W_pure ?_) fun _ _ _ x => x)
  rw [hpos]
  exact W_bind (W_pure h₂)
/-- the items of a list or a tuple, one by one, as arguments -/
theorem star_of {φ : Led} {s : Shared} {a : Addr} {xs : List AV} {R : List Value → Loc → Led → Prop} (hd : Dis σ φ) (hA : At c.w c.B ((c.L, m) :: c.fs) s.heap (σ.un φ)) (hl : σ a = some (.list xs) ∨ σ a = some (.tuple xs)) (hz : xs.length ≤ sizeLine)
    (h : ∀ vs, vs.map er = xs → R vs m σ) : StarOf (model c.prog c.w) c.A (PE c φ s E) (.ref a) (PQ c φ s R) s := by
  unfold StarOf notIterableAtAll
  rcases hl with hl | hl
  · obtain ⟨o, ho, vs, n, rfl, hv⟩ := hA.led a _ (Led.un_left hl)
    have hT : s.TypeIs (.ref a) "list" := ⟨_, ho, rfl⟩
    refine wpAny_bind (wpAny_specialOf hT PySem.F.slot_list_iter.lookup (wpAny_pure ⟨rfl, ?_⟩))
    exact wpAny_collect_seq a (.inl rfl) ho rfl rfl (fun h' hk => PQ.more (tk := s.toks) hd hA hk (by simpa using h vs hv)) (by rw [List.size_toArray]; rw [← hv] at hz; simpa using hz)
  · obtain ⟨o, ho, vs, n, rfl, hv⟩ := hA.led a _ (Led.un_left hl)
    have hT : s.TypeIs (.ref a) "tuple" := ⟨_, ho, rfl⟩
    refine wpAny_bind (wpAny_specialOf hT PySem.F.slot_tuple_iter.lookup (wpAny_pure ⟨rfl, ?_⟩))
    exact wpAny_collect_seq a (.inr rfl) ho rfl rfl (fun h' hk => PQ.more (tk := s.toks) hd hA hk (by simpa using h vs hv)) (by rw [List.size_toArray]; rw [← hv] at hz; simpa using hz)
theorem W_items_star {e : Expr} {rest : List Expr} {p pos : Pos} {Q : List Value → Loc → Led → Prop}
    (h : W c (eval e env) (fun v m σ => ∃ a xs, v = .ref a ∧ (σ a = some (.list xs) ∨ σ a = some (.tuple xs)) ∧ xs.length ≤ sizeLine ∧ ∀ vs, vs.map er = xs → W c (spliced (backTo pos (starEach rest env))) (fun ws => Q (vs ++ ws)) E m σ) E m σ)
    (he : starEach (.Starred e p :: rest) env = (true, eval e env) :: starEach rest env := by rfl) : W c (spliced (backTo pos (starEach (.Starred e p :: rest) env))) Q E m σ := fun φ s hd hA => by
  refine items_star (wpAny_mono (h φ s hd hA) (fun v s₁ x => ?_) fun _ _ x => x) he
  obtain ⟨h₁, tk₁, m₁, σ₁, rfl, hd₁, hA₁, a, xs, rfl, hl, hz, hq⟩ := x
  have z := star_of (c := c) (s := { s with heap := h₁, toks := tk₁ }) (E := E) (R := fun vs m' σ' => m' = m₁ ∧ σ' = σ₁ ∧ vs.map er = xs) hd₁ hA₁ hl hz (fun vs hv => ⟨rfl, rfl, hv⟩)
  unfold StarOf at z ⊢
  refine wpAny_mono z (fun b s₂ y => ⟨y.1, wpAny_mono y.2 (fun vs s₃ y => ?_) fun _ _ y => y.re⟩) fun _ _ y => y.re
  obtain ⟨h₃, tk₃, m₃, σ₃, rfl, hd₃, hA₃, rfl, rfl, hv⟩ := y
  exact wpAny_mono (hq vs hv φ _ hd₃ hA₃) (fun ws s₄ y => y) fun _ _ y => y.re
/-- f(*e) -/
theorem W_argsStar {f : Value} {e : Expr} {p pos : Pos} {Q : Args → Loc → Led → Prop}
    (h : W c (eval e env) (fun v m σ => ∃ a xs, v = .ref a ∧ (σ a = some (.list xs) ∨ σ a = some (.tuple xs)) ∧ xs.length ≤ sizeLine ∧ ∀ vs, vs.map er = xs → Q ⟨vs, []⟩ m σ) E m σ)
    (he : starEach [.Starred e p] env = [(true, eval e env)] := by rfl) : W c (evalArgs f true (backTo pos (starEach [.Starred e p] env)) []) Q E m σ := fun φ s hd hA => by
  rw [he]
  refine ks_lone (wpAny_mono (h φ s hd hA) (fun v s₁ x => ?_) fun _ _ x => x)
  obtain ⟨h₁, tk₁, m₁, σ₁, rfl, hd₁, hA₁, a, xs, rfl, hl, hz, hq⟩ := x
  have z := star_of (c := c) (s := { s with heap := h₁, toks := tk₁ }) (E := E) (R := fun vs => Q ⟨vs, []⟩) hd₁ hA₁ hl hz (fun vs hv => hq vs hv)
  unfold StarOf at z ⊢
  refine wpAny_mono z (fun b s₂ y => ⟨y.1, wpAny_mono y.2 (fun vs s₃ y => ?_) fun _ _ y => y.re⟩) fun _ _ y => y.re
  exact y
theorem keep_bound {q f : Addr} {self : Value} (G : Good K n c) (hf : fnIn (K c.w.params) f = true) (σ φ : Led) (m : Loc) (h : Heap) (hq : σ q = some (.exact (methodObj (.ref f) self))) (hA : At c.w c.B ((c.L, m) :: c.fs) h (σ.un φ)) :
    ∃ k, (k = Keeper.frame ∨ k = Keeper.machine ∨ k = Keeper.boundFrame) ∧ Looks (model c.prog c.w) h (keeperOf (.ref q)) k := by
  obtain ⟨o, ho, rfl⟩ := hA.led q _ (Led.un_left hq)
  exact keeps_M hf h ⟨ho, G.X.keeps hA.keep⟩
/-- a bound method called with a starred argument, behind others or alone -/
theorem W_callWithM {q f : Addr} {self : Value} {pos : Pos} {args : List Expr} {Q : Value → Loc → Led → Prop} (G : Good K n c) (hf : fnIn (K c.w.params) f = true) (hst : (backTo pos (starEach args env)).any (·.1) = true)
    (h : W c (evalArgs (.ref q) true (backTo pos (starEach args env)) []) (fun a m σ => σ q = some (.exact (methodObj (.ref f) self)) ∧ W c (call (.ref q) a.pos a.kw) Q E m σ) E m σ) : W c (callWith pos (.ref q) [] (backTo pos (starEach args env)) []) Q E m σ :=
  W_callWithStar hst (fun σ => σ q = some (.exact (methodObj (.ref f) self))) (fun σ φ m h a b => keep_bound G hf σ φ m h a b) h
/-- a def of the written part with a parameter that takes the rest, without cells -/
theorem WC_fnV {f : Addr} {nm qual : Str} {params : Arguments} {body : List Stmt} {scope : Scope} {dV kV doc pm cdv ct oc : Value} {an od : Option Addr} {osl : Array (Option Value)} {vals : List Value} {Q : Value → Loc → Led → Prop} (binds : List (Str × Value)) (va : Str) (rest : List Value) (G : Good K (n + 1) c)
    (ho : (K c.w.params).lookup f = some ⟨oc, od, .func (fnOf nm qual params body scope dV kV doc pm an cdv ct), osl⟩) (hcd : codeIn (K c.w.params) cdv qual = true)
    (hb : bindArgs (fnOf nm qual params body scope dV kV doc pm an cdv ct) ⟨vals, []⟩ = (newTuple rest >>= fun t => pure (binds ++ [(va, t)])))
    (hkind : (binds.all fun y => scope.names.lookup y.1 == some .local) = true) (hva : scope.names.lookup va = some .local) (hz : rest.length ≤ sizeLine)
    (h : ∀ L a, σ a = none → (∀ e, L ≤ e → σ e = none) → Good K n (c.into m (envK qual scope L f cdv) L) → W (c.into m (envK qual scope L f cdv) L) (execs body (envK qual scope L f cdv)) (fun fl _ σ' => Q (retOf fl) m σ') (fun cls _ σ' => E cls m σ') (locOf (binds ++ [(va, .ref a)])) (σ.set a (.tuple (rest.map er))))
    (hnc : ∀ n, cellsFrom n scope.names [] = [] := by intro _; rfl) (hco : scope.isCoroutine = false := by rfl) (hgen : scope.isGenerator = false := by rfl) (hk : scope.kind = .function := by rfl) : WC c (.call (.ref f) ⟨vals, []⟩) Q E m σ := by
  refine W_callK G ho hcd ?_ (by rw [hnc]; exact List.nodup_nil) hco hgen hk
  rw [hb]
  refine W_bind (W_newTuple (fun a ha => W_pure ⟨?_, fun L hL => ?_⟩) hz)
  · refine kindsX (scope := scope) (List.all_eq_true.mpr fun y hy => ?_)
    rcases List.mem_append.mp hy with hy | hy
    · rw [List.all_eq_true.mp hkind y hy]; rfl
    · rw [List.mem_singleton.mp hy]; show (scope.names.lookup va == some .local || _) = true; rw [hva]; rfl
  · have e := h L a ha (fun e he => by
      have := hL e he
      by_cases q : e = a
      · subst q; exact ha
      · rw [Led.set_ne q] at this; exact this) (G.into rfl (by show scope.kind ≠ _; rw [hk]; decide))
    have e2 : ∀ σ, cellFold (bindC (envK qual scope L f cdv).kindOf (binds ++ [(va, .ref a)]) fun _ => none) (cellsFrom (L + 1) scope.names []) σ = σ := fun σ => by rw [hnc]; rfl
    have e3 : eraseM (bindL (envK qual scope L f cdv).kindOf (binds ++ [(va, .ref a)]) fun _ => none) = locOf (binds ++ [(va, .ref a)]) := bindL_locOf _ _ _ (fun y hy => by
      rcases List.mem_append.mp hy with hy | hy
      · have := List.all_eq_true.mp hkind y hy; exact beq_iff_eq.mp this
      · rw [List.mem_singleton.mp hy]; exact hva) rfl
    rw [← e3] at e
    rw [← e2 (σ.set a _)] at e
    exact e
end
section
variable {c : Cx} {E : Value → Loc → Led → Prop} {m : Loc} {σ : Led}
/-- len of a list or a tuple -/
theorem W_len {l : Addr} {xs : List AV} {Q : Value → Loc → Led → Prop} (hl : σ l = some (.list xs) ∨ σ l = some (.tuple xs)) (hz : xs.length ≤ sizeLine) (h : ∀ t, Q (.int xs.length t) m σ) : W c (call (.builtin "len") [.ref l]) Q E m σ := fun φ s hd hA => by
  have fit : (xs.length : Int) < 2 ^ 63 := by have : sizeLine < 2 ^ 63 := by decide
                                              omega
  rcases hl with hl | hl
  · obtain ⟨o, ho, vs, n, rfl, hv⟩ := hA.led l _ (Led.un_left hl)
    have e : vs.length = xs.length := by rw [← hv]; simp
    refine PyProof.Rows.len_list ⟨_, ho, rfl, n, rfl⟩ (by rw [List.size_toArray, e]; exact fit) ?_
    rw [List.size_toArray, e]
    exact PQ.here hd hA (h _)
  · obtain ⟨o, ho, vs, n, rfl, hv⟩ := hA.led l _ (Led.un_left hl)
    have e : vs.length = xs.length := by rw [← hv]; simp
    refine PyProof.Rows.len_tuple ⟨_, ho, rfl, n, rfl⟩ (by rw [List.size_toArray, e]; exact fit) ?_
    rw [List.size_toArray, e]
    exact PQ.here hd hA (h _)
end
section
variable {K : Params → Frag} {n : Nat} {c : Cx} {E : Value → Loc → Led → Prop} {m : Loc} {σ : Led}
theorem cells_nodup {scope : Scope} (hnd : ((cellsFrom 0 scope.names []).map (·.1)).Nodup) (n : Nat) : ((cellsFrom n scope.names []).map (·.1)).Nodup := by
  have e : ∀ (names : List (Str × NameKind)) (i j : Nat) (a b : List (Str × Addr)), a.map (·.1) = b.map (·.1) → (cellsFrom i names a).map (·.1) = (cellsFrom j names b).map (·.1) := by
    intro names
    induction names with
    | nil => intro i j a b e; exact e
    | cons p r ih =>
      intro i j a b e
      obtain ⟨y, k⟩ := p
      unfold cellsFrom
      split
      · exact ih _ _ _ _ (by simp [e])
      · exact ih _ _ _ _ e
  rw [e scope.names n 0 [] [] rfl]; exact hnd
/-- a def of the written part, its arguments bound by a look at the written part alone (defaults) -/
theorem WC_fnP {f : Addr} {nm qual : Str} {params : Arguments} {body : List Stmt} {scope : Scope} {dV kV doc pm cdv ct oc : Value} {an od : Option Addr} {osl : Array (Option Value)} {args : Args} {Q : Value → Loc → Led → Prop} (binds : List (Str × Value)) (G : Good K (n + 1) c)
    (ho : (K c.w.params).lookup f = some ⟨oc, od, .func (fnOf nm qual params body scope dV kV doc pm an cdv ct), osl⟩) (hcd : codeIn (K c.w.params) cdv qual = true)
    (hb : ∀ S, peek (K c.w.params) S (bindArgs (fnOf nm qual params body scope dV kV doc pm an cdv ct) args) = some binds)
    (hkind : (binds.all fun y => scope.names.lookup y.1 == some .local) = true)
    (h : ∀ L, (∀ e, L ≤ e → σ e = none) → Good K n (c.into m (envK qual scope L f cdv) L) → W (c.into m (envK qual scope L f cdv) L) (execs body (envK qual scope L f cdv)) (fun fl _ σ' => Q (retOf fl) m σ') (fun cls _ σ' => E cls m σ') (locOf binds) σ)
    (hnc : ∀ n, cellsFrom n scope.names [] = [] := by intro _; rfl) (hco : scope.isCoroutine = false := by rfl) (hgen : scope.isGenerator = false := by rfl) (hk : scope.kind = .function := by rfl) : WC c (.call (.ref f) args) Q E m σ := by
  obtain ⟨p, loose, mg, mb, T⟩ := G.T
  refine W_callFn G.ok G.room (G.X _ _ ho) rfl T.nolimit (codeRec_of G.X hcd) rfl rfl (cells_nodup (scope := scope) (by rw [hnc]; exact List.nodup_nil)) hco hgen hk ?_
  refine W_looks (c := c.in1) (a := binds) (fun h hk => Looks.of_peek (G.X.keeps hk) (hb _)) ⟨kindsX (scope := scope) (List.all_eq_true.mpr fun y hy => by rw [List.all_eq_true.mp hkind y hy]; rfl), fun L hL => ?_⟩
  have e := h L hL (G.into rfl (by show scope.kind ≠ _; rw [hk]; decide))
  have e2 : cellFold (bindC (envK qual scope L f cdv).kindOf binds fun _ => none) (cellsFrom (L + 1) scope.names []) σ = σ := by rw [hnc]; rfl
  have e3 : eraseM (bindL (envK qual scope L f cdv).kindOf binds fun _ => none) = locOf binds := bindL_locOf binds _ _ (fun x hx => by have := List.all_eq_true.mp hkind x hx; exact beq_iff_eq.mp this) rfl
  rw [← e2, ← e3] at e
  exact e
theorem W_fnP {f : Addr} {nm qual : Str} {params : Arguments} {body : List Stmt} {scope : Scope} {dV kV doc pm cdv ct oc : Value} {an od : Option Addr} {osl : Array (Option Value)} {vals : List Value} {kw : List (Str × Value)} {Q : Value → Loc → Led → Prop} (binds : List (Str × Value)) (G : Good K (n + 1) c)
    (ho : (K c.w.params).lookup f = some ⟨oc, od, .func (fnOf nm qual params body scope dV kV doc pm an cdv ct), osl⟩) (hcd : codeIn (K c.w.params) cdv qual = true)
    (hb : ∀ S, peek (K c.w.params) S (bindArgs (fnOf nm qual params body scope dV kV doc pm an cdv ct) ⟨vals, kw⟩) = some binds)
    (hkind : (binds.all fun y => scope.names.lookup y.1 == some .local) = true)
    (h : ∀ L, (∀ e, L ≤ e → σ e = none) → Good K n (c.into m (envK qual scope L f cdv) L) → W (c.into m (envK qual scope L f cdv) L) (execs body (envK qual scope L f cdv)) (fun fl _ σ' => Q (retOf fl) m σ') (fun cls _ σ' => E cls m σ') (locOf binds) σ)
    (hnc : ∀ n, cellsFrom n scope.names [] = [] := by intro _; rfl) (hco : scope.isCoroutine = false := by rfl) (hgen : scope.isGenerator = false := by rfl) (hk : scope.kind = .function := by rfl) : W c (call (.ref f) vals kw) Q E m σ :=
  W_ofCode (WC_fnP binds G ho hcd hb hkind h hnc hco hgen hk)
end
end Mine
end
section
namespace Mine
theorem list_led {c : Cx} {m : Loc} {σ φ : Led} {h : Heap} {l : Addr} {xs : List AV} (hA : At c.w c.B ((c.L, m) :: c.fs) h (σ.un φ)) (hl : σ l = some (.list xs)) : ∃ vs n, h.get? l = some { cls := .type "list", data := .seq (List.toArray vs) n } ∧ vs.map er = xs := by
  obtain ⟨o, ho, vs, n, rfl, hv⟩ := hA.led l _ (Led.un_left hl)
  exact ⟨vs, n, ho, hv⟩
theorem tuple_led {c : Cx} {m : Loc} {σ φ : Led} {h : Heap} {l : Addr} {xs : List AV} (hA : At c.w c.B ((c.L, m) :: c.fs) h (σ.un φ)) (hl : σ l = some (.tuple xs)) : ∃ vs n, h.get? l = some { cls := .type "tuple", data := .seq (List.toArray vs) n } ∧ vs.map er = xs := by
  obtain ⟨o, ho, vs, n, rfl, hv⟩ := hA.led l _ (Led.un_left hl)
  exact ⟨vs, n, ho, hv⟩
theorem len_er {vs : List Value} {xs : List AV} (h : vs.map er = xs) : vs.length = xs.length := by rw [← h]; simp
section
variable {c : Cx} {E : Value → Loc → Led → Prop} {m : Loc} {σ : Led} {env : Env} {l b : Addr} {xs ys : List AV} {Q : Value → Loc → Led → Prop}
/-- an update of a list's items -/
theorem PQ.listUpd {α : Type} {φ : Led} {s : Shared} {vs : List Value} {n : Nat} {f : Array Value → Array Value} {ws : List Value} {x : α} {Q : α → Loc → Led → Prop} (hd : Dis σ φ) (hA : At c.w c.B ((c.L, m) :: c.fs) s.heap (σ.un φ)) (hl : σ l = some (.list xs))
    (ho : s.heap.get? l = some { cls := .type "list", data := .seq (List.toArray vs) n }) (hf : f vs.toArray = ws.toArray) (h : Q x m (σ.set l (.list (ws.map er)))) : PQ c φ s Q x { s with heap := s.heap.update l (Obj.mapSeq f) } := by
  obtain ⟨n', hm⟩ := mapSeq_list f vs.toArray n
  rw [hf] at hm
  exact PQ.upd (tk := s.toks) (ao := .list (ws.map er)) hd hA hl (Heap.SameBut.update ..) (Heap.get?_update_self _ ho (by rw [hm]; rfl)) ⟨ws, n', hm, rfl⟩ h
theorem W_clear (hl : σ l = some (.list xs)) (hz : xs.length ≤ sizeLine) (h : Q .none m (σ.set l (.list []))) : W c (call (.builtin "list.clear") [.ref l]) Q E m σ := fun φ s hd hA => by
  obtain ⟨vs, n, ho, hv⟩ := list_led hA hl
  exact call_meets PySem.F.slot_list_clear ⟨_, ho, rfl⟩ PySem.F.entry_list_clear (PySem.F.args_list_clear_1 _) (PySem.AutoSeq1.list_clear_list_0 l vs.toArray n (by rw [List.size_toArray, len_er hv]; exact hz)) ⟨ho, PQ.listUpd (ws := []) hd hA hl ho rfl h⟩
theorem W_pop {ys : List AV} {y : AV} (hl : σ l = some (.list (ys ++ [y]))) (hz : ys.length + 1 ≤ sizeLine) (h : ∀ v, er v = y → Q v m (σ.set l (.list ys))) : W c (call (.builtin "list.pop") [.ref l]) Q E m σ := fun φ s hd hA => by
  obtain ⟨vs, n, ho, hv⟩ := list_led hA hl
  obtain ⟨vs', us, rfl, h1, h2⟩ := List.map_eq_append_iff.mp hv
  obtain ⟨u, us', rfl, h3, h4⟩ := map_er_cons h2
  obtain rfl : us' = [] := by simpa using h4
  have hlen := len_er h1
  refine call_meets PySem.F.slot_list_pop ⟨_, ho, rfl⟩ PySem.F.entry_list_pop (PySem.F.args_list_pop_1 _) (PySem.MeetsSeq.list_pop_last l (vs' ++ [u]).toArray n u (by simp) (by simp; omega)) ⟨ho, PQ.listUpd (ws := vs') hd hA hl ho ?_ (by rw [h1]; exact h u h3)⟩
  apply Array.toList_inj.mp
  simp [List.eraseIdx_append_of_length_le]
theorem W_concat (hl : σ l = some (.list xs)) (hb : σ b = some (.list ys)) (hz : xs.length + ys.length ≤ sizeLine) (h : ∀ a, σ a = none → Q (.ref a) m (σ.set a (.list (xs ++ ys)))) : W c (binaryOp .Add (.ref l) (.ref b)) Q E m σ := fun φ s hd hA => by
  obtain ⟨vs, n, ho, hv⟩ := list_led hA hl
  obtain ⟨ws, k, hw, hu⟩ := list_led hA hb
  refine PySem.P.add_list ho hw ?_ (by rw [List.size_toArray, List.size_toArray, len_er hv, len_er hu]; exact hz)
  exact PQ.new (a := s.heap.objs.size) (tk := s.toks) (ao := .list (xs ++ ys)) hd hA (fun b o e => Heap.get?_push_of_some _ e) (Heap.get?_push_size _ rfl) ⟨vs ++ ws, 0, by simp, by rw [List.map_append, hv, hu]⟩ (Nat.le_refl _) (h _)
theorem W_tupleOf (hl : σ l = some (.list xs)) (hz : xs.length ≤ sizeLine) (h : ∀ a, σ a = none → Q (.ref a) m (σ.set a (.tuple xs))) : W c (call (.type "tuple") [.ref l]) Q E m σ := fun φ s hd hA => by
  obtain ⟨vs, n, ho, hv⟩ := list_led hA hl
  refine call_tuple_list ⟨_, ho, rfl, n, rfl⟩ (fun h' hk => ?_) (by rw [List.size_toArray, len_er hv]; exact hz)
  have hA' := hA.keeps hk
  have e := Led.un_none (hA'.fresh (Nat.le_refl _))
  exact ⟨_, s.toks, m, σ.set h'.objs.size (.tuple xs), rfl, hd.set e.2, Led.un_set ▸ hA'.alloc (fun b o e => Heap.get?_push_of_some _ e) (Heap.get?_push_size _ rfl) ⟨vs, 0, rfl, hv⟩ (Nat.le_refl _), h _ e.1⟩
theorem W_boolList (hl : σ l = some (.list xs)) (hz : xs.length ≤ sizeLine) (h : Q (.bool (!xs.isEmpty)) m σ) : W c (call (.type "bool") [.ref l]) Q E m σ := fun φ s hd hA => by
  obtain ⟨vs, n, ho, hv⟩ := list_led hA hl
  have e : vs.toArray.isEmpty = xs.isEmpty := by rw [← hv]; cases vs <;> rfl
  have fit : (vs.toArray.size : Int) < 2 ^ 63 := by
    rw [List.size_toArray, len_er hv]; have : sizeLine = 2 ^ 24 := rfl; omega
  have g : Meets (Builtin.«bool.__new__» ⟨[.type "bool", .ref l], []⟩) (fun A R s => s.heap.get? l = some { cls := .type "list", data := .seq (List.toArray vs) n } ∧ ∀ tk, R (.ok (.ret (.bool (!vs.toArray.isEmpty)))) { s with toks := tk }) :=
    Meets.of_wp fun prog w A R s hs => by
      have f1 := PySem.F.conv_sub_bool
      have key : ∀ {M' : Program} {w' : World} {A' : Around} {E' : Value → Shared → Prop} {Q' : Bool → Shared → Prop}, (∀ tk, Q' (!vs.toArray.isEmpty) { s with toks := tk }) → wpAny (model M' w') A' (truthy (.ref l)) Q' E' s := fun hq => wpAny_truthy_list ⟨_, hs.1, rfl, n, rfl⟩ fit (hq _)
      obtain ⟨hp, g, d, tk, os⟩ := s
      repeat (any_goals (first | assumption | (with_reducible refine key fun tk' => ?_) | wp_step))
      all_goals first | exact ⟨_, rfl, hs.2 _⟩ | exact hs.2 _ | skip
  refine call_bool_1 g ⟨ho, fun tk => ⟨rfl, ?_⟩⟩
  rw [e]; exact PQ.here hd hA h
/-- an item -/
theorem W_item {value slice : Expr} {k : Int} {t : Tok} {x : AV} (hl : σ l = some (.list xs)) (h0 : 0 ≤ k) (hx : xs[k.toNat]? = some x) (hz : xs.length ≤ sizeLine) (h : ∀ v, er v = x → Q v m σ)
    (hs : subscripted slice false (.ref l) (.int k t) = operate [.ref l, .int k t] (getItem (.ref l) (.int k t)) := by with_unfolding_all rfl) (hg : ∀ r, letTemporaryGo value (.ref l) r = pure () := by intro _; with_unfolding_all rfl) :
    W c (subscriptTail value slice (.ref l) (.int k t)) Q E m σ := fun φ s hd hA => by
  obtain ⟨vs, n, ho, hv⟩ := list_led hA hl
  obtain ⟨v, hv', e⟩ := getElem_er hv hx
  have : k.toNat < xs.length := (List.getElem?_eq_some_iff.mp hx).1
  exact item_list ⟨_, ho, rfl, n, rfl⟩ h0 (by have : sizeLine = 2 ^ 24 := rfl; omega) hv' (PQ.here hd hA (h v e)) hs hg
theorem W_itemLast {value slice : Expr} {t : Tok} {ys : List AV} {y : AV} (hl : σ l = some (.list (ys ++ [y]))) (hz : ys.length ≤ sizeLine) (h : ∀ v, er v = y → Q v m σ)
    (hs : subscripted slice false (.ref l) (.int (-1) t) = operate [.ref l, .int (-1) t] (getItem (.ref l) (.int (-1) t)) := by with_unfolding_all rfl) (hg : ∀ r, letTemporaryGo value (.ref l) r = pure () := by intro _; with_unfolding_all rfl) :
    W c (subscriptTail value slice (.ref l) (.int (-1) t)) Q E m σ := fun φ s hd hA => by
  obtain ⟨vs, n, ho, hv⟩ := list_led hA hl
  have len := len_er hv
  simp only [List.length_append, List.length_singleton] at len
  obtain ⟨v, hv', e⟩ := getElem_er (i := ys.length) (x := y) hv (by simp)
  have hT : s.heap.IsList l vs.toArray := ⟨_, ho, rfl, n, rfl⟩
  refine subscriptTail_builtin hT.typeIs slot_list_getitem.lookup (wpAny_getItem_list_neg hT (by decide) (by rw [List.size_toArray]; omega) (by decide) (x := v) ?_ (PQ.here hd hA (h v e))) hs hg
  rw [List.size_toArray, len, show ((-1 : Int) + ((ys.length + 1 : Nat) : Int)).toNat = ys.length from by omega]
  exact hv'
/-- an item of a dict -/
theorem W_itemDict {value slice : Expr} {d : Addr} {es : List (AV × AV)} {ep : Nat} {k : PKey} {key : Value} {av : AV} (hd : σ d = some (.dict es ep)) (hk : (er key).key = some k) (hv : dget es k = some av) (h : ∀ v, er v = av → Q v m σ)
    (hs : subscripted slice false (.ref d) key = operate [.ref d, key] (getItem (.ref d) key) := by with_unfolding_all rfl) (hg : ∀ r, letTemporaryGo value (.ref d) r = pure () := by intro _; with_unfolding_all rfl) :
    W c (subscriptTail value slice (.ref d) key) Q E m σ := fun φ s hd' hA => by
  obtain ⟨o, ho, hx, _⟩ := hA.led d _ (Led.un_left hd)
  exact subscriptTail_builtin (⟨o, ho, hx.1⟩ : s.TypeIs (.ref d) "dict") slot_dict_getitem.lookup (W_getItemDict hd hk hv h φ s hd' hA) hs hg
/-- a list that stands in the ledger or in what stays -/
noncomputable def ListAt (c : Cx) (σ : Led) (l : Addr) (xs : List AV) : Prop := σ l = some (.list xs) ∨ ∃ vs : List Value, c.B.IsList l vs.toArray ∧ vs.map er = xs
theorem ListAt.get {φ : Led} {h : Heap} (hA : At c.w c.B ((c.L, m) :: c.fs) h (σ.un φ)) (hl : ListAt c σ l xs) : ∃ (vs : List Value) (ol : Obj) (n : Nat), h.get? l = some ol ∧ ol.cls = .type "list" ∧ ol.data = .seq (List.toArray vs) n ∧ vs.map er = xs := by
  rcases hl with hl | ⟨vs, ⟨ol, hb, hc, n, hd⟩, hv⟩
  · obtain ⟨vs, n, ho, hv⟩ := list_led hA hl
    exact ⟨vs, _, n, ho, rfl, rfl, hv⟩
  · exact ⟨vs, ol, n, hA.keep _ _ hb, hc, hd, hv⟩
noncomputable def pickA (xs : List AV) (lo hi st : Option Int) : List AV := (sliceRange (sliceBounds lo hi st xs.length).1 (sliceBounds lo hi st xs.length).2.1 (sliceBounds lo hi st xs.length).2.2).filterMap (xs[·]?)
theorem pick_er {vs : List Value} {lo hi st : Option Int} (hv : vs.map er = xs) : (slicePick vs.toArray lo hi st).toList.map er = pickA xs lo hi st := by
  unfold slicePick pickA
  rw [List.size_toArray, len_er hv]
  show List.map er (List.filterMap _ _) = _
  rw [List.map_filterMap]
  congr 1
  funext i
  rw [← hv, List.getElem?_map]
  simp
theorem W_evalNone {Q : Value → Loc → Led → Prop} (h : Q .none m σ) : W c (evalPart none env) Q E m σ := W_pure h
/-- x[a:b] -/
theorem W_slice {value : Expr} {lower upper : Option Expr} {p pos : Pos}
    (h : W c (eval value env) (fun o m σ => W c (evalPart lower env) (fun vl m σ => W c (evalPart upper env) (fun vu m σ => ∃ l xs lo hi, o = .ref l ∧ ListAt c σ l xs ∧ IsPart vl lo ∧ IsPart vu hi ∧ xs.length ≤ sizeLine ∧
      ∀ a, σ a = none → Q (.ref a) m (σ.set a (.list (pickA xs lo hi none)))) E m σ) E m σ) E m σ)
    (ht : ∀ o r, letTemporaryGo value o r = pure () := by intro _ _; rfl) : W c (eval (.Subscript value (.Slice lower upper none p) pos) env) Q E m σ := fun φ s hd hA => by
  refine wpAny_Subscript_Slice slot_list_getitem.lookup (wpAny_mono (h φ s hd hA) (fun o s₁ x => ?_) fun _ _ x => x) ht
  obtain ⟨h₁, tk₁, m₁, σ₁, rfl, hd₁, hA₁, x⟩ := x
  refine wpAny_Slice (wpAny_mono (x φ _ hd₁ hA₁) (fun vl s₂ x => ?_) fun _ _ x => x.re)
  obtain ⟨h₂, tk₂, m₂, σ₂, rfl, hd₂, hA₂, x⟩ := x
  refine wpAny_mono (x φ _ hd₂ hA₂) (fun vu s₃ x => ?_) fun _ _ x => x.re
  obtain ⟨h₃, tk₃, m₃, σ₃, rfl, hd₃, hA₃, l, xs, lo, hi, rfl, hl, pl, pu, hz, hq⟩ := x
  refine wpAny_pure ?_
  obtain ⟨vs, ol, n, ho, hoc, hod, hv⟩ := ListAt.get hA₃ hl
  have ho' : (h₃.push { cls := .type "slice", data := .fields #[vl, vu, .none] }).get? l = some ol := Heap.get?_push_of_some _ ho
  have hA₄ := hA₃.keeps (h' := h₃.push { cls := .type "slice", data := .fields #[vl, vu, .none] }) fun b o e => Heap.get?_push_of_some _ e
  refine ⟨⟨_, ho', hoc⟩, wpAny_getItem_list_slice ⟨_, ho', hoc, n, hod⟩ (Heap.IsSliceOf.new _ _ _ _) pl pu .none (by intro q; cases q) ?_ (by rw [List.size_toArray, len_er hv]; exact hz)⟩
  have e := Led.un_none (hA₄.fresh (Nat.le_refl _))
  exact ⟨_, tk₃, m₃, σ₃.set _ (.list (pickA xs lo hi none)), rfl, hd₃.set e.2, Led.un_set ▸ hA₄.alloc (fun b o e => Heap.get?_push_of_some _ e) (Heap.get?_push_size _ rfl) ⟨(slicePick vs.toArray lo hi none).toList, 0, by simp, pick_er hv⟩ (Nat.le_refl _), hq _ e.1⟩
/-- x[a:b:c] -/
theorem W_slice3 {value st : Expr} {lower upper : Option Expr} {p pos : Pos}
    (h : W c (eval value env) (fun o m σ => W c (evalPart lower env) (fun vl m σ => W c (evalPart upper env) (fun vu m σ => W c (eval st env) (fun vs m σ => ∃ l xs lo hi k t, o = .ref l ∧ ListAt c σ l xs ∧ IsPart vl lo ∧ IsPart vu hi ∧ vs = .int k t ∧ k ≠ 0 ∧ xs.length ≤ sizeLine ∧
      ∀ a, σ a = none → Q (.ref a) m (σ.set a (.list (pickA xs lo hi (some k))))) E m σ) E m σ) E m σ) E m σ)
    (ht : ∀ o r, letTemporaryGo value o r = pure () := by intro _ _; rfl) : W c (eval (.Subscript value (.Slice lower upper (some st) p) pos) env) Q E m σ := fun φ s hd hA => by
  refine wpAny_Subscript_Slice_step slot_list_getitem.lookup (wpAny_mono (h φ s hd hA) (fun o s₁ x => ?_) fun _ _ x => x) ht
  obtain ⟨h₁, tk₁, m₁, σ₁, rfl, hd₁, hA₁, x⟩ := x
  refine wpAny_Slice (wpAny_mono (x φ _ hd₁ hA₁) (fun vl s₂ x => ?_) fun _ _ x => x.re)
  obtain ⟨h₂, tk₂, m₂, σ₂, rfl, hd₂, hA₂, x⟩ := x
  refine wpAny_mono (x φ _ hd₂ hA₂) (fun vu s₃ x => ?_) fun _ _ x => x.re
  obtain ⟨h₃, tk₃, m₃, σ₃, rfl, hd₃, hA₃, x⟩ := x
  refine wpAny_mono (x φ _ hd₃ hA₃) (fun vk s₃ x => ?_) fun _ _ x => x.re
  obtain ⟨h₃, tk₃, m₃, σ₃, rfl, hd₃, hA₃, l, xs, lo, hi, k, t, rfl, hl, pl, pu, rfl, hk, hz, hq⟩ := x
  obtain ⟨vs, ol, n, ho, hoc, hod, hv⟩ := ListAt.get hA₃ hl
  have ho' : (h₃.push { cls := .type "slice", data := .fields #[vl, vu, .int k t] }).get? l = some ol := Heap.get?_push_of_some _ ho
  have hA₄ := hA₃.keeps (h' := h₃.push { cls := .type "slice", data := .fields #[vl, vu, .int k t] }) fun b o e => Heap.get?_push_of_some _ e
  refine ⟨⟨_, ho', hoc⟩, wpAny_getItem_list_slice ⟨_, ho', hoc, n, hod⟩ (Heap.IsSliceOf.new _ _ _ _) pl pu (.int k t) (by intro q; exact hk (Option.some.inj q)) ?_ (by rw [List.size_toArray, len_er hv]; exact hz)⟩
  have e := Led.un_none (hA₄.fresh (Nat.le_refl _))
  exact ⟨_, tk₃, m₃, σ₃.set _ (.list (pickA xs lo hi (some k))), rfl, hd₃.set e.2, Led.un_set ▸ hA₄.alloc (fun b o e => Heap.get?_push_of_some _ e) (Heap.get?_push_size _ rfl) ⟨(slicePick vs.toArray lo hi (some k)).toList, 0, by simp, pick_er hv⟩ (Nat.le_refl _), hq _ e.1⟩
theorem intsAre_of : ∀ {vs : List Value} {ns : List Int}, vs.map er = ns.map AV.int → IntsAre vs ns
  | [], [], _ => .nil
  | [], _ :: _, h => by cases h
  | _ :: _, [], h => by cases h
  | v :: vs, n :: ns, h => by
    rw [List.map_cons, List.map_cons] at h
    obtain ⟨t, rfl⟩ := er_int (List.cons.inj h).1
    exact .cons n t (intsAre_of (List.cons.inj h).2)
theorem er_intsAre : ∀ {vs : List Value} {ns : List Int}, IntsAre vs ns → vs.map er = ns.map AV.int
  | _, _, .nil => rfl
  | _, _, .cons n t h => by rw [List.map_cons, List.map_cons, er_intsAre h]; rfl
end
end Mine
end
section
namespace Mine
section
variable {c : Cx} {E : Value → Loc → Led → Prop} {m : Loc} {σ : Led} {env : Env}
end
end Mine
end
section
namespace Mine
/-! what done does -/
noncomputable def kp (v : AV) : PKey × AV := (v.key.getD (.num 0), v)
noncomputable def pOf (k : PKey) (ps : List PN) : Option PN := ps.find? fun n => decide (n.node.key = some k)
noncomputable def npOf (k : PKey) (ps : List PN) : Int := ((pOf k ps).map (·.np)).getD 0
noncomputable def suOf (k : PKey) (ps : List PN) : List AV := ((pOf k ps).map (·.su)).getD []
noncomputable def sucStep (st : List PN × List AV) (s : PKey × AV) : List PN × List AV :=
  (updP s.1 (fun n => { n with np := n.np - 1 }) st.1, if npOf s.1 st.1 = 1 then st.2 ++ [s.2] else st.2)
noncomputable def doneStep (st : List PN × List AV) (k : PKey) : List PN × List AV :=
  ((suOf k st.1).map kp).foldl sucStep (updP k (fun n => { n with np := -2 }) st.1, st.2)
noncomputable def doneP : List PKey → List PN × List AV → Option (List PN × List AV)
  | [], st => some st
  | k :: r, st => if npOf k st.1 = -1 then doneP r (doneStep st k) else none
/-- the successors are nodes -/
noncomputable def Closed (ps : List PN) : Prop := ∀ n ∈ ps, ∀ v ∈ n.su, ∃ k, v.key = some k ∧ ∃ n' ∈ ps, n'.node.key = some k
noncomputable def pkeys (ps : List PN) : List (Option PKey) := ps.map (·.node.key)
theorem pOf_map {k : PKey} {ns : List NI} {n : NI} (kn : (ns.map (·.node.key)).Nodup) (hn : n ∈ ns) (hk : n.node.key = some k) : pOf k (ns.map NI.pn) = some n.pn := by
  unfold pOf
  induction ns with
  | nil => cases hn
  | cons e ns ih =>
    rw [List.map_cons, List.nodup_cons] at kn
    rw [List.map_cons, List.find?_cons]
    rcases List.mem_cons.mp hn with rfl | hn
    · have : decide ((NI.pn n).node.key = some k) = true := decide_eq_true hk
      rw [this]
    · have : decide ((NI.pn e).node.key = some k) = false := decide_eq_false fun q => kn.1 (List.mem_map.mpr ⟨n, hn, hk.trans q.symm⟩)
      rw [this]; exact ih kn.2 hn
theorem pkeys_upd {k : PKey} {g : PN → PN} {ps : List PN} (hg : ∀ n, (g n).node = n.node) : pkeys (updP k g ps) = pkeys ps := by
  unfold pkeys updP
  rw [List.map_map]
  refine List.map_congr_left fun n _ => ?_
  show (if n.node.key = some k then g n else n).node.key = n.node.key
  split
  · rw [hg]
  · rfl
theorem mem_pkeys {ps : List PN} {k : PKey} : some k ∈ pkeys ps ↔ ∃ n ∈ ps, n.node.key = some k := by
  unfold pkeys; exact List.mem_map
theorem Closed.upd {k : PKey} {g : PN → PN} {ps : List PN} (h : Closed ps) (hg : ∀ n, (g n).node = n.node ∧ (g n).su = n.su) : Closed (updP k g ps) := fun n hn v hv => by
  obtain ⟨n', hn', rfl⟩ := List.mem_map.mp hn
  have hv' : v ∈ n'.su := by
    split at hv
    · rw [(hg n').2] at hv; exact hv
    · exact hv
  obtain ⟨kk, h1, h2⟩ := h n' hn' v hv'
  refine ⟨kk, h1, mem_pkeys.mp ?_⟩
  rw [pkeys_upd fun n => (hg n).1]
  exact mem_pkeys.mpr h2
theorem sucFold_closed (l : List (PKey × AV)) : ∀ (st : List PN × List AV), Closed st.1 → Closed (l.foldl sucStep st).1 := by
  induction l with
  | nil => intro _ h; exact h
  | cons s r ih => intro st h; rw [List.foldl_cons]; exact ih _ (h.upd fun _ => ⟨rfl, rfl⟩)
theorem doneStep_closed {st : List PN × List AV} {k : PKey} (h : Closed st.1) : Closed (doneStep st k).1 := by
  unfold doneStep; exact sucFold_closed _ _ (h.upd fun _ => ⟨rfl, rfl⟩)
theorem sucFold_su (l : List (PKey × AV)) {b : Nat} : ∀ (st : List PN × List AV), suB b st.1 → suB b (l.foldl sucStep st).1 := by
  induction l with
  | nil => intro _ h; exact h
  | cons s r ih => intro st h; rw [List.foldl_cons]; exact ih _ (suB_upd h (Nat.le_refl _) fun _ h => h)
theorem doneStep_su {st : List PN × List AV} {k : PKey} {b : Nat} (h : suB b st.1) : suB b (doneStep st k).1 := by
  unfold doneStep; exact sucFold_su _ _ (suB_upd h (Nat.le_refl _) fun _ h => h)
theorem sucFold_len (l : List (PKey × AV)) : ∀ (st : List PN × List AV), (l.foldl sucStep st).2.length ≤ st.2.length + l.length := by
  induction l with
  | nil => intro _; exact Nat.le_refl _
  | cons s r ih =>
    intro st
    rw [List.foldl_cons]
    have := ih (sucStep st s)
    have e : (sucStep st s).2.length ≤ st.2.length + 1 := by unfold sucStep; dsimp only; split <;> simp
    simp only [List.length_cons]; omega
theorem suOf_len {k : PKey} {ps : List PN} {b : Nat} (h : suB b ps) : (suOf k ps).length ≤ b := by
  unfold suOf pOf
  cases e : ps.find? fun n => decide (n.node.key = some k) with
  | none => exact Nat.zero_le _
  | some n => exact h n (List.mem_of_find?_eq_some e)
theorem doneStep_len {st : List PN × List AV} {k : PKey} {b : Nat} (h : suB b st.1) : (doneStep st k).2.length ≤ st.2.length + b := by
  have := sucFold_len ((suOf k st.1).map kp) (updP k (fun n => { n with np := -2 }) st.1, st.2)
  have e := suOf_len (k := k) h
  unfold doneStep
  simp only [List.length_map] at this
  exact Nat.le_trans this (Nat.add_le_add_left e _)
/-- only the numbers differ -/
noncomputable def NI.sh (n : NI) : AV × Addr × Addr × Addr × List AV := (n.node, n.a, n.dx, n.s, n.su)
theorem sh_mem {ns ns' : List NI} (h : ns'.map NI.sh = ns.map NI.sh) {n : NI} (hn : n ∈ ns) : ∃ n' ∈ ns', n'.node = n.node ∧ n'.a = n.a ∧ n'.dx = n.dx ∧ n'.s = n.s ∧ n'.su = n.su := by
  have : n.sh ∈ ns'.map NI.sh := by rw [h]; exact List.mem_map.mpr ⟨n, hn, rfl⟩
  obtain ⟨n', h1, h2⟩ := List.mem_map.mp this
  unfold NI.sh at h2
  simp only [Prod.mk.injEq] at h2
  exact ⟨n', h1, h2⟩
end Mine
end
section
namespace Mine
/-- keys told exactly: for each key the one form that it has -/
noncomputable def pkX (prog : Program) (w : World) (X : PKey → AV) : KeyKind prog w PKey where
  is := fun k v => decide (er v = X k ∧ (X k).key = some k)
  hash := PKey.hash w
  inj := fun v a b ha hb => by
    have h1 := of_decide_eq_true ha
    have h2 := of_decide_eq_true hb
    have e1 : (er v).key = some a := by rw [h1.1]; exact h1.2
    have e2 : (er v).key = some b := by rw [h2.1]; exact h2.2
    rw [e1] at e2; exact Option.some.inj e2
  byValue := fun k v h => (pk prog w).byValue k v (decide_eq_true (by have := of_decide_eq_true h; rw [this.1]; exact this.2))
  pyHash := fun {A E s k v Q} hv h => (pk prog w).pyHash (decide_eq_true (by have := of_decide_eq_true hv; rw [this.1]; exact this.2)) h
  eqBool := fun {A E s a b u v Q} hu hv h => (pk prog w).eqBool (decide_eq_true (by have := of_decide_eq_true hu; rw [this.1]; exact this.2)) (decide_eq_true (by have := of_decide_eq_true hv; rw [this.1]; exact this.2)) h
  «strs» := fun k x t v h => by
    have h1 := of_decide_eq_true h
    have e1 : (er (.str x t)).key = some k := by rw [h1.1]; exact h1.2
    have : k = .str x := (Option.some.inj e1).symm
    subst this
    have hX : X (.str x) = .str x := h1.1.symm
    rw [hX]
    cases v <;> simp [er, AV.key, Value.isStr]
    rename_i s' _
    by_cases q : s' = x <;> simp [q]
noncomputable def formOf (es : List (AV × AV)) (k : PKey) : AV := ((es.find? fun e => decide (e.1.key = some k)).map (·.1)).getD .none
theorem formOf_mem {es : List (AV × AV)} (hn : (es.map (·.1.key)).Nodup) {e : AV × AV} {k : PKey} (he : e ∈ es) (hk : e.1.key = some k) : formOf es k = e.1 := by
  unfold formOf
  induction es with
  | nil => cases he
  | cons x r ih =>
    rw [List.map_cons, List.nodup_cons] at hn
    rw [List.find?_cons]
    rcases List.mem_cons.mp he with rfl | he
    · simp [hk]
    · have : x.1.key ≠ some k := fun q => hn.1 (List.mem_map.mpr ⟨e, he, hk.trans q.symm⟩)
      simp only [this, decide_false]
      exact ih hn.2 he
theorem rel_pairs {prog : Program} {w : World} {X : PKey → AV} {ds : List DictEntry} {es : List (AV × AV)} (h : Rel2 (entryOk w) ds es) : (∀ e ∈ es, ∀ k, e.1.key = some k → X k = e.1) →
    ∃ kvs : List (PKey × Value), Pairs (pkX prog w X) ds kvs ∧ (∀ e ∈ ds, ∃ k, (pkX prog w X).is k e.key = true ∧ e.hash = (pkX prog w X).hash k) ∧ kvs.map (fun q => some q.1) = es.map (·.1.key) ∧ kvs.map (fun q => er q.2) = es.map (·.2) :=
  Rel2.ind (R := entryOk w) (P := fun ds es => (∀ e ∈ es, ∀ k, e.1.key = some k → X k = e.1) →
    ∃ kvs : List (PKey × Value), Pairs (pkX prog w X) ds kvs ∧ (∀ e ∈ ds, ∃ k, (pkX prog w X).is k e.key = true ∧ e.hash = (pkX prog w X).hash k) ∧ kvs.map (fun q => some q.1) = es.map (·.1.key) ∧ kvs.map (fun q => er q.2) = es.map (·.2))
    (fun _ => ⟨[], .nil, fun e he => (nomatch he), rfl, rfl⟩) (fun d ds e es h hr ih hX => by
    obtain ⟨kvs, h1, h2, h3, h4⟩ := ih fun e he => hX e (.tail _ he)
    obtain ⟨e1, e2, k, e3, e4⟩ := h
    have hx := hX e (.head _) k e3
    have hi : (pkX prog w X).is k d.key = true := decide_eq_true ⟨by rw [e1, hx], by rw [hx]; exact e3⟩
    refine ⟨(k, d.val) :: kvs, .cons hi rfl h1, fun x hx' => ?_, by rw [List.map_cons, List.map_cons, h3, e3], by rw [List.map_cons, List.map_cons, h4, e2]⟩
    rcases List.mem_cons.mp hx' with rfl | hx'
    · exact ⟨k, hi, e4⟩
    · exact h2 x hx') ds es h
section
variable {K : Params → Frag} {n : Nat} {c : Cx} {E : Value → Loc → Led → Prop} {m : Loc} {σ : Led} {env : Env} {d : Addr} {es : List (AV × AV)} {ep : Nat}
/-- a dict of the ledger, its keys told exactly -/
theorem dictX {φ : Led} {h : Heap} (hA : At c.w c.B ((c.L, m) :: c.fs) h (σ.un φ)) (hd : σ d = some (.dict es ep)) :
    ∃ kvs, h.DictAt (pkX c.prog c.w (formOf es)) d kvs ep ∧ kvs.length = es.length ∧ ∀ (i : Nat) (e : AV × AV), es[i]? = some e → ∃ k v, kvs[i]? = some (k, v) ∧ e.1.key = some k ∧ er v = e.2 ∧ formOf es k = e.1 := by
  obtain ⟨o, ho, hx, ds, hdat, hr, hn⟩ := hA.led d _ (Led.un_left hd)
  obtain ⟨kvs, h1, h2, h3, h4⟩ := rel_pairs (prog := c.prog) (X := formOf es) hr fun e he k hk => formOf_mem hn he hk
  have hlen : kvs.length = es.length := by have := congrArg List.length h3; simpa using this
  refine ⟨kvs, ⟨o, ds.toArray, ho, hx, hdat, fun e he => h2 e (by simpa using he), by simpa using h1, ?_⟩, hlen, fun i e he => ?_⟩
  · have : (kvs.map (fun q => some q.1)).Nodup := by rw [h3]; exact hn
    have e : kvs.map (fun q => some q.1) = (kvs.map (·.1)).map some := by rw [List.map_map]; rfl
    rw [e] at this
    exact (List.pairwise_map.mp this).imp fun h q => h (congrArg some q)
  · have hi : i < kvs.length := by rw [hlen]; exact (List.getElem?_eq_some_iff.mp he).1
    have a1 : (kvs.map (fun q => some q.1))[i]? = (es.map (·.1.key))[i]? := by rw [h3]
    have a2 : (kvs.map (fun q => er q.2))[i]? = (es.map (·.2))[i]? := by rw [h4]
    rw [List.getElem?_map, List.getElem?_map, he, List.getElem?_eq_getElem hi] at a1 a2
    simp only [Option.map_some, Option.some.injEq] at a1 a2
    exact ⟨kvs[i].1, kvs[i].2, by rw [List.getElem?_eq_getElem hi], a1.symm, a2, formOf_mem hn (List.mem_of_getElem? he) a1.symm⟩
noncomputable def isKIter (d : Addr) (n ep : Nat) (i : Nat) : AO := .like fun o => o.cls = .type "dict_keyiterator" ∧ o.data = .fields #[.ref d, .int i 0, .int n 0, .int ep 0]
theorem Iter.dict (hh : c.A.handled = none) (I d : Addr) (es : List (AV × AV)) (ep : Nat) : Iter c I (es.map (·.1)) (fun τ => τ d = some (.dict es ep)) (isKIter d es.length ep) where
  item := fun {i x m τ Q E} st hI hx h φ s hd hA => by
    have hne := ne_of_led st hI
    have st' : (τ.set I (isKIter d es.length ep i)) d = some (.dict es ep) := (Led.set_ne hne).trans st
    obtain ⟨kvs, hD, hlen, hk⟩ := dictX hA st'
    obtain ⟨e, he, rfl⟩ : ∃ e, es[i]? = some e ∧ e.1 = x := by
      rw [List.getElem?_map] at hx
      cases q : es[i]? with
      | none => rw [q] at hx; cases hx
      | some e => rw [q] at hx; exact ⟨e, rfl, by simpa using hx⟩
    obtain ⟨k, v, h1, h2, h3, h4⟩ := hk i e he
    obtain ⟨o, ho, hc, hdat⟩ := hA.led I _ (Led.un_left Led.set_self)
    refine wpAny_pyNext_dict_item (knd := pkX c.prog c.w (formOf es)) (d := d) (i := i) (ep := ep) ⟨o, ho, hc, by rw [hdat, hlen]⟩ hD h1 fun key h' hkey hit hs => ?_
    obtain ⟨o', ho', hc', hd'⟩ := hit
    have hkk : er key = e.1 := by rw [(of_decide_eq_true hkey).1, h4]
    exact PQ.next (o' := isKIter d es.length ep (i + 1)) hd hA hs ho' ⟨hc', by rw [hd', hlen]⟩ (h key hkk)
  done := fun {m τ Q E} st hI h φ s hd hA => by
    have hne := ne_of_led st hI
    have st' : (τ.set I (isKIter d es.length ep (es.map (·.1)).length)) d = some (.dict es ep) := (Led.set_ne hne).trans st
    obtain ⟨kvs, hD, hlen, hk⟩ := dictX hA st'
    obtain ⟨o, ho, hc, hdat⟩ := hA.led I _ (Led.un_left Led.set_self)
    refine wpAny_pyNext_dict_end (knd := pkX c.prog c.w (formOf es)) (d := d) (i := (es.map (·.1)).length) (ep := ep) hh ⟨o, ho, hc, by rw [hdat, hlen]⟩ hD (by simp [hlen]) fun h' hs => PQ.gone hI hd hA hs h
theorem W_pyIter_dict {Q : Value → Loc → Led → Prop} (G : Good K n c) (hd : σ d = some (.dict es ep)) (h : ∀ I, σ I = none → Q (.ref I) m (σ.set I (isKIter d es.length ep 0))) : W c (pyIter (.ref d)) Q E m σ := fun φ s hd' hA => by
  obtain ⟨kvs, hD, hlen, hk⟩ := dictX hA hd
  refine wpAny_pyIter_dict (ne_mods G ⟨φ, _, hA⟩ hd) hD ?_
  exact PQ.new (a := s.heap.objs.size) (tk := s.toks) (ao := isKIter d es.length ep 0) hd' hA (fun b o e => Heap.get?_push_of_some _ e) (Heap.get?_push_size _ rfl) ⟨rfl, by rw [hlen]; rfl⟩ (Nat.le_refl _) (h _)
theorem W_For_dict {target iter : Expr} {body : List Stmt} {pos : Pos} {Q : Flow → Loc → Led → Prop} (G : Good K n c) (hh : c.A.handled = none) (hf : env.frame = some c.f)
    (h : W c (eval iter env) (fun v m σ => ∃ d es ep, ∃ Inv : Nat → Loc → Led → Prop, v = .ref d ∧ σ d = some (.dict es ep) ∧ Inv 0 m σ ∧ (∀ i m τ, Inv i m τ → τ d = some (.dict es ep)) ∧
      (∀ i x v m τ, es[i]? = some x → er v = x.1 → Inv i m τ → W c (assign target env v) (fun _ m τ => W c (execs body env) (ForPost Q (Inv (i + 1))) E m τ) E m τ) ∧ (∀ m τ, Inv es.length m τ → Q .next m τ)) E m σ)
    (hs : ∀ x, foldedSetIterable iter env x = pure x := by intro _; rfl) (ht : ∀ it v, letOwnedTupleGo target it v = pure () := by intro _ _; rfl) : W c (exec (.For target iter body [] pos) env) Q E m σ :=
  W_For G.ok hf (W_mono h (fun v m σ x => by
    obtain ⟨d, es, ep, Inv, rfl, hl, h0, hst, turn, fin⟩ := x
    exact W_pyIter_dict G hl fun I hI => ⟨I, es.map (·.1), _, _, σ, Inv, rfl, Iter.dict hh I d es ep, rfl, hI, hst, h0, fun i x v m τ hx hv hI => by
      rw [List.getElem?_map] at hx
      cases q : es[i]? with
      | none => rw [q] at hx; cases hx
      | some e => rw [q] at hx; exact turn i e v m τ q (by rw [hv]; simpa using hx.symm) hI, by rw [List.length_map]; exact fin⟩) fun _ _ _ x => x) hs ht
end
end Mine
end
section
set_option maxRecDepth 100000
namespace Mine
theorem typeOf_li_next : typeOf (.builtin "list_iterator.__next__") = pure (.type "wrapper_descriptor") := by show builtinType _ = _; rw [builtinType_eq_fast]; kernel_rfl
theorem slot_wd_get : Slot "wrapper_descriptor" "__get__" "wrapper_descriptor.__get__" :=
  .of (owner := "wrapper_descriptor") (n := "__get__") (by rw [typeLookup_type, builtinLookup_eq_fast]; kernel_rfl) (by decide +kernel) (by decide +kernel) (by decide +kernel)
    (by first | exact .inl (by decide +kernel) | exact .inr (by decide +kernel)) (by rw [isSubtype_type]; kernel_rfl)
theorem wd_set : typeLookup (.type "wrapper_descriptor") "__set__" = pure none := by rw [typeLookup_type, builtinLookup_eq_fast]; kernel_rfl
theorem wd_delete : typeLookup (.type "wrapper_descriptor") "__delete__" = pure none := by rw [typeLookup_type, builtinLookup_eq_fast]; kernel_rfl
theorem entry_wd_get : entryFor table "wrapper_descriptor.__get__" = some Builtin.«wrapper_descriptor.__get__» := entryFor_of_tree (by kernel_rfl)
theorem args_wd_get (a b c : Value) : argsOk "wrapper_descriptor.__get__" ⟨[a, b, c], []⟩ := by unfold argsOk; kernel_rfl
theorem li_ga : typeLookup (.type "list_iterator") "__getattribute__" = pure (some (.builtin "object.__getattribute__")) := by rw [typeLookup_type, builtinLookup_eq_fast]; kernel_rfl
theorem slot_li_ga : Slot "list_iterator" "__getattribute__" "object.__getattribute__" :=
  .of (owner := "object") (n := "__getattribute__") li_ga (by decide +kernel) (by decide +kernel) (by decide +kernel)
    (by first | exact .inl (by decide +kernel) | exact .inr (by decide +kernel)) (by rw [isSubtype_type]; kernel_rfl)
theorem entry_obj_ga : entryFor table "object.__getattribute__" = some Builtin.«object.__getattribute__» := entryFor_of_tree (by kernel_rfl)
theorem args_obj_ga (a b : Value) : argsOk "object.__getattribute__" ⟨[a, b], []⟩ := by unfold argsOk; kernel_rfl
theorem li_getattr : typeLookup (.type "list_iterator") "__getattr__" = pure none := by rw [typeLookup_type, builtinLookup_eq_fast]; kernel_rfl
theorem owner_li_next : (".".intercalate ("list_iterator.__next__".cutAt '.').dropLast) = "list_iterator" := by
  have e0 : "list_iterator.__next__".cutAt '.' = ["list_iterator", "__next__"] := by first | rfl | decide +kernel
  rw [e0]; decide +kernel
theorem sub_li : isSubtype (.type "list_iterator") (.type (".".intercalate ("list_iterator.__next__".cutAt '.').dropLast)) = pure true := by
  rw [owner_li_next, isSubtype_type]; kernel_rfl
noncomputable abbrev wrapObj (I : Addr) : Obj := { cls := .type "method-wrapper", data := .fields #[.builtin "list_iterator.__next__", .ref I] }
section
variable {prog : Program} {w : World} {A : Around} {E : Value → Shared → Prop} {h : Heap} {g : Array GenState} {d : Drawn} {t : Nat} {os : OsState} {a : Addr} {o : Obj}
theorem wd_get_li {R : Result → Shared → Prop} (hx : h.get? a = some o) (hc : o.cls = .type "list_iterator") (hq : R (.ok (.ret (.ref h.objs.size))) ⟨h.push (wrapObj a), g, d, t, os⟩) :
    codeAny (model prog w) A (.call (.builtin "wrapper_descriptor.__get__") ⟨[.builtin "list_iterator.__next__", .ref a, .type "list_iterator"], []⟩) R ⟨h, g, d, t, os⟩ := by
  have hT : (⟨h, g, d, t, os⟩ : Shared).TypeIs (.ref a) "list_iterator" := ⟨_, hx, hc⟩
  have hT5 : (⟨h, g, d, t, os⟩ : Shared).TypeIs (.builtin "list_iterator.__next__") "wrapper_descriptor" := typeOf_li_next
  have f8 := sub_li
  refine codeAny_call_builtin slot_wd_get.plain entry_wd_get (slot_wd_get.check _ _ _ _ _ _ _ _ hT5 (args_wd_get _ _ _) ?_)
  unfold Builtin.«wrapper_descriptor.__get__»
  repeat (any_goals (first | assumption | wp_step))
theorem li_entry {tk : Tok} {Q : Fin → Shared → Prop} (hx : h.get? a = some o) (hc : o.cls = .type "list_iterator") (hd : o.dict = none) {vs : Array Value} (hv : o.data = .fields vs) (hq : Q (.done (.ret (.ref h.objs.size))) ⟨h.push (wrapObj a), g, d, t, os⟩) :
    wpAny (model prog w) A (Builtin.«object.__getattribute__» ⟨[.ref a, .str "__next__" tk], []⟩) Q E ⟨h, g, d, t, os⟩ := by
  obtain ⟨cl, dc, da, sl⟩ := o
  simp only at hc hd hv
  subst hc hd hv
  have hT : (⟨h, g, d, t, os⟩ : Shared).TypeIs (.ref a) "list_iterator" := ⟨_, hx, rfl⟩
  have hT5 : (⟨h, g, d, t, os⟩ : Shared).TypeIs (.builtin "list_iterator.__next__") "wrapper_descriptor" := typeOf_li_next
  have f4 := slot_listiter_next.lookup
  have f5 := typeOf_li_next
  have f6 := slot_wd_get.lookup
  have f7 := wd_set
  have f8 := wd_delete
  repeat (any_goals (first | assumption | wp_step))
  exact wd_get_li hx rfl (wpAny_pure hq)
theorem getAttr_li {expr : Bool} {Q : Value → Shared → Prop} (hx : h.get? a = some o) (hc : o.cls = .type "list_iterator") (hd : o.dict = none) {vs : Array Value} (hv : o.data = .fields vs) (hq : Q (.ref h.objs.size) ⟨h.push (wrapObj a), g, d, t + 1, os⟩) :
    wpAny (model prog w) A (getAttr (.ref a) "__next__" expr) Q E ⟨h, g, d, t, os⟩ := by
  obtain ⟨cl, dc, da, sl⟩ := o
  simp only at hc hd hv
  subst hc hd hv
  have hT : ∀ t, (⟨h, g, d, t, os⟩ : Shared).TypeIs (.ref a) "list_iterator" := fun _ => ⟨_, hx, rfl⟩
  have f1 := li_ga
  have f2 := li_getattr
  have f4 := slot_li_ga.bind (.ref a)
  unfold getAttr getAttrBy
  repeat (any_goals (first | assumption | exact hT _ | wp_step))
  rw [if_neg (by simp [onTheHeap])]
  unfold boundAndCalled
  repeat (any_goals (first | assumption | exact hT _ | wp_step))
  refine codeAny_call_builtin slot_li_ga.plain entry_obj_ga (slot_li_ga.check _ _ _ _ _ _ _ _ (hT _) (args_obj_ga _ _) (li_entry hx rfl rfl rfl ?_))
  exact wpAny_pure hq
end
theorem isStop : isSubtype (.type "StopIteration") (.type "BaseException") = pure true := by rw [isSubtype_type]; kernel_rfl
section
variable {prog : Program} {w : World} {A : Around} {E : Value → Shared → Prop} {s : Shared} {it l : Addr} {i : Nat} {items : Array Value}
theorem li_next_item {x : Value} {P : Fin → Shared → Prop} (hit : s.heap.IsListIter it l i) (hl : s.heap.IsList l items) (hx : items[i]? = some x)
    (hQ : ∀ h', h'.IsListIter it l (i + 1) → Heap.SameBut it s.heap h' → P (.done (.ret x)) { s with heap := h' }) : wpAny (model prog w) A (Builtin.«list_iterator.__next__» ⟨[.ref it], []⟩) P E s := by
  obtain ⟨o, ho, hc, hd⟩ := id hit
  obtain ⟨ol, hol, _, nl, hdl⟩ := hl
  show wpAny _ _ (field (.ref it) 0 >>= _) _ _ s
  refine wpAny_bind (wpAny_field ho hd (x := .ref l) rfl ?_)
  show wpAny _ _ (if (Value.ref l == Value.none) = true then _ else _) _ _ s
  rw [if_neg (show ¬ ((Value.ref l == Value.none) = true) from Bool.false_ne_true)]
  show wpAny _ _ (field (.ref it) 1 >>= _) _ _ s
  refine wpAny_bind (wpAny_field ho hd (x := .int i 0) rfl ?_)
  show wpAny _ _ (seqItems? (.ref l) >>= _) _ _ s
  refine wpAny_bind (wpAny_seqItems hol hdl ?_)
  simp only [Int.toNat_natCast, hx]
  refine wpAny_bind (wpAny_setField ho hd (by simp) (wpAny_pure (hQ _ ?_ (Heap.SameBut.update ..))))
  exact ⟨_, Heap.get?_update_self _ ho (Obj.isFreed_of_fields (Obj.data_mapFields hd _)), (Obj.cls_mapFields ..).trans hc, by
    rw [Obj.data_mapFields hd]; simp [rawInt]⟩
theorem li_next_end {P : Fin → Shared → Prop} (hh : A.handled = none) (hit : s.heap.IsListIter it l i) (hl : s.heap.IsList l items) (hx : items[i]? = none)
    (hE : ∀ h' e o vs, Heap.ExtBut it s.heap h' → h'.get? e = some o → o.cls = .type "StopIteration" → o.data = .fields vs → vs[1]? = some .none → vs[2]? = some .none → s.heap.objs.size ≤ e → E (.ref e) { s with heap := h' }) : wpAny (model prog w) A (Builtin.«list_iterator.__next__» ⟨[.ref it], []⟩) P E s := by
  obtain ⟨o, ho, hc, hd⟩ := id hit
  obtain ⟨ol, hol, _, nl, hdl⟩ := hl
  show wpAny _ _ (field (.ref it) 0 >>= _) _ _ s
  refine wpAny_bind (wpAny_field ho hd (x := .ref l) rfl ?_)
  show wpAny _ _ (if (Value.ref l == Value.none) = true then _ else _) _ _ s
  rw [if_neg (show ¬ ((Value.ref l == Value.none) = true) from Bool.false_ne_true)]
  show wpAny _ _ (field (.ref it) 1 >>= _) _ _ s
  refine wpAny_bind (wpAny_field ho hd (x := .int i 0) rfl ?_)
  show wpAny _ _ (seqItems? (.ref l) >>= _) _ _ s
  refine wpAny_bind (wpAny_seqItems hol hdl ?_)
  simp only [Int.toNat_natCast, hx]
  refine wpAny_bind (wpAny_rule (wpAny_bind (wpAny_setField ho hd (by simp) ?_)))
  show wpAny _ _ (newExc (.type "StopIteration") [] >>= _) _ _ _
  refine wpAny_bind ?_
  simp only [newExc, newTuple]
  refine wpAny_bind (wpAny_newObj_type ?_ (by size_fits))
  refine wpAny_bind (m := firstArgMember _ _) (wpAny_of_eq (a := Value.none) (by first | rfl | (simp only [firstArgMember]; rfl)) ?_)
  refine wpAny_newObj_type ?_ (by size_fits)
  simp only [raiseNew]
  refine wpAny_bind (wpAny_handled ?_)
  rw [hh]
  refine wpAny_bind (wpAny_pure (wpAny_throw ?_))
  refine hE _ _ _ _ (((Heap.SameBut.update ..).extBut.push _).push _) (Heap.get?_push_size _ rfl) rfl rfl rfl rfl ?_
  rw [Heap.size_push, Heap.size_update]; exact Nat.le_succ _
end
section
variable {prog : Program} {w : World} {A : Around} {s : Shared} {q I : Addr}
theorem check_li (I : Addr) : checkBoundCall "list_iterator.__next__" ⟨[.ref I], []⟩ = pure () := by kernel_rfl
theorem plain_li_next : plainId "list_iterator.__next__" = true := by decide +kernel
theorem wrap_call {R : Result → Shared → Prop} (hq : s.heap.get? q = some (wrapObj I))
    (h : wpAny (model prog w) A.in1 (Builtin.«list_iterator.__next__» ⟨[.ref I], []⟩) (fun fin s' => match fin with | .done fl => R (.ok fl) s' | _ => False) (fun e s' => R (.error e) s') s) : codeAny (model prog w) A (.call (.ref q) ⟨[], []⟩) R s := by
  refine codeAny_of_tree ?_
  show wpAny _ A.in1 (callAny (.ref q) ⟨[], []⟩) _ _ _
  unfold callAny
  refine wpAny_bind (wpAny_load hq ?_)
  show wpAny _ _ (checkBoundCall "list_iterator.__next__" ⟨[.ref I], []⟩ >>= _) _ _ _
  rw [check_li]
  refine wpAny_bind (wpAny_pure ?_)
  refine wpAny_pure ⟨plainId_quiet plain_li_next _, codeAny_builtin entry_listiter_next ?_⟩
  rw [Around.under_plainId plain_li_next _]
  refine wpAny_mono h (fun fin s' z => ?_) fun _ _ z => z
  rcases fin with fl | _
  · exact z
  · exact z.elim
end
end Mine
end
section
namespace Mine
noncomputable def Led.del (σ : Led) (a : Addr) : Led := fun b => if b = a then none else σ b
theorem Led.del_self {σ : Led} {a : Addr} : σ.del a a = none := if_pos rfl
theorem Led.del_ne {σ : Led} {a b : Addr} (h : b ≠ a) : σ.del a b = σ b := if_neg h
theorem Led.del_sub {σ : Led} {a : Addr} : ∀ b o, σ.del a b = some o → σ b = some o := fun b o e => by
  unfold Led.del at e; split at e
  · cases e
  · exact e
theorem notTuple_stop : isSubtype (.type ((Manifest.find? "StopIteration").elim "type" fun x => x.metatype)) (.type "tuple") = pure false := by rw [find?_eq_fast, isSubtype_type]; kernel_rfl
noncomputable abbrev liObj (l : Addr) : Obj := { cls := .type "list_iterator", data := .fields #[.ref l, .int 0 0] }
theorem entry_iter : entryFor table "iter" = some Builtin.«iter» := entryFor_of_tree (by kernel_rfl)
theorem kind_iter : builtinKind "iter" = none := by decide +kernel
theorem plain_iter : plainId "iter" = true := by decide +kernel
theorem args_iter1 (a : Value) : argsOk "iter" ⟨[a], []⟩ := by unfold argsOk; kernel_rfl
section
variable {K : Params → Frag} {n : Nat} {c : Cx} {E : Value → Loc → Led → Prop} {m : Loc} {σ : Led} {env : Env} {l I q : Addr} {xs : List AV} {Q : Value → Loc → Led → Prop}
theorem W_iterCall (hl : σ l = some (.list xs)) (h : ∀ I, σ I = none → Q (.ref I) m (σ.set I (.exact (liObj l)))) : W c (call (.builtin "iter") [.ref l]) Q E m σ := fun φ s hd hA => by
  obtain ⟨vs, n, ho, hv⟩ := list_led hA hl
  refine Calls.call_function_entry kind_iter plain_iter entry_iter (args_iter1 _) ?_
  unfold Builtin.«iter»
  refine wpAny_bind (m := someArgs "iter" 1 2 _) (wpAny_pure ?_)
  refine wpAny_bind (wpAny_pyIter_list ⟨_, ho, rfl, n, rfl⟩ (wpAny_pure ⟨_, rfl, ?_⟩))
  exact PQ.new (a := s.heap.objs.size) (tk := s.toks) (ao := .exact (liObj l)) hd hA (fun b o e => Heap.get?_push_of_some _ e) (Heap.get?_push_size _ rfl) rfl (Nat.le_refl _) (h _)
/-- the bound __next__ of a new list iterator; the iterator is told as one from then on -/
theorem W_getNext {expr : Bool} (hI : σ I = some (.exact (liObj l))) (h : ∀ q, σ q = none → Q (.ref q) m ((σ.set I (isLIter l 0)).set q (.exact (wrapObj I)))) : W c (getAttr (.ref I) "__next__" expr) Q E m σ := fun φ s hd hA => by
  obtain ⟨o, ho, rfl⟩ := hA.led I _ (Led.un_left hI)
  obtain ⟨hp, g, d, tk, os⟩ := s
  refine getAttr_li ho rfl rfl rfl ?_
  have hφ : φ I = none := (hd I).resolve_left (by rw [hI]; intro q; cases q)
  have hA1 : At c.w c.B ((c.L, m) :: c.fs) hp ((σ.set I (isLIter l 0)).un φ) := by
    rw [Led.un_set]
    exact hA.set (Led.un_left hI) ⟨rfl, fun _ _ => rfl⟩ ho ⟨rfl, rfl⟩
  have hd1 : Dis (σ.set I (isLIter l 0)) φ := hd.set hφ
  refine PQ.new (c := c) (s := ⟨hp, g, d, tk, os⟩) (a := hp.objs.size) (tk := tk + 1) (ao := .exact (wrapObj I)) hd1 hA1 (fun b o e => Heap.get?_push_of_some _ e) (Heap.get?_push_size _ rfl) rfl (Nat.le_refl _) fun e => h _ ?_
  have hne : hp.objs.size ≠ I := fun e' => by rw [e', Led.set_self] at e; cases e
  rw [Led.set_ne hne] at e; exact e
theorem keep_wrap (σ φ : Led) (m : Loc) (h : Heap) (hq : σ q = some (.exact (wrapObj I))) (hA : At c.w c.B ((c.L, m) :: c.fs) h (σ.un φ)) :
    ∃ k, (k = Keeper.frame ∨ k = Keeper.machine ∨ k = Keeper.boundFrame) ∧ Looks (model c.prog c.w) h (keeperOf (.ref q)) k := by
  obtain ⟨o, ho, rfl⟩ := hA.led q _ (Led.un_left hq)
  exact ⟨.machine, .inr (.inl rfl), (Looks.ld (part := none) ho).andThen .now⟩
theorem W_callWithWrap {pos : Pos} (hq : σ q = some (.exact (wrapObj I))) (h : W c (call (.ref q) []) Q E m σ) : W c (callWith pos (.ref q) [] (backTo pos (starEach [] env)) []) Q E m σ :=
  W_callWith rfl (fun σ => σ q = some (.exact (wrapObj I))) (fun σ φ m h a b => keep_wrap σ φ m h a b) (W_args_nil ⟨hq, by simpa using h⟩)
/-- the next item by the bound __next__ -/
theorem W_callNext {i : Nat} {x : AV} (hq : σ q = some (.exact (wrapObj I))) (hI : σ I = some (isLIter l i)) (hl : σ l = some (.list xs)) (hx : xs[i]? = some x) (h : ∀ v, er v = x → Q v m (σ.set I (isLIter l (i + 1)))) : W c (call (.ref q) []) Q E m σ :=
  W_ofCode fun φ s hd hA => by
    obtain ⟨o, ho, rfl⟩ := hA.led q _ (Led.un_left hq)
    obtain ⟨oi, hoi, hci, hdi⟩ := hA.led I _ (Led.un_left hI)
    obtain ⟨vs, n, hol, hv⟩ := list_led hA hl
    obtain ⟨v, hv', e⟩ := getElem_er hv hx
    refine wrap_call ho (li_next_item (l := l) (i := i) ⟨oi, hoi, hci, hdi⟩ ⟨_, hol, rfl, n, rfl⟩ hv' fun h' hit hs => ?_)
    obtain ⟨o', ho', hc', hd'⟩ := hit
    exact PQ.upd (tk := s.toks) (ao := isLIter l (i + 1)) hd hA hI hs ho' ⟨hc', hd'⟩ (h v e)
theorem W_callStop {i : Nat} (hh : c.A.handled = none) (hq : σ q = some (.exact (wrapObj I))) (hI : σ I = some (isLIter l i)) (hl : σ l = some (.list xs)) (hx : xs[i]? = none) (h : E (.type "StopIteration") m (σ.del I)) : W c (call (.ref q) []) Q E m σ :=
  W_ofCode fun φ s hd hA => by
    obtain ⟨o, ho, rfl⟩ := hA.led q _ (Led.un_left hq)
    obtain ⟨oi, hoi, hci, hdi⟩ := hA.led I _ (Led.un_left hI)
    obtain ⟨vs, n, hol, hv⟩ := list_led hA hl
    have hφ : φ I = none := (hd I).resolve_left (by rw [hI]; intro q; cases q)
    refine wrap_call ho (li_next_end (l := l) (i := i) hh ⟨oi, hoi, hci, hdi⟩ ⟨_, hol, rfl, n, rfl⟩ (by have := len_er hv; simp at hx; simp; omega) fun h' e oe ves hs he hce hde h1 h2 hse => ?_)
    have sub : ∀ a ao, (σ.del I).un φ a = some ao → σ.un φ a = some ao := fun a ao q => by
      cases r : σ.del I a with
      | some o' => rw [Led.un_left r] at q; exact (Led.un_left (Led.del_sub _ _ r)).trans q
      | none =>
        rw [Led.un_right r] at q
        by_cases z : a = I
        · rw [z, hφ] at q; cases q
        · rw [Led.del_ne z] at r; rw [Led.un_right r]; exact q
    have hA1 := hA.sub sub
    have eI := Led.un_left (φ := φ) hI
    have nI : (σ.del I).un φ I = none := by rw [Led.un_right Led.del_self]; exact hφ
    have hA2 := hA1.offExt hs (hA.new _ _ eI) nI (hA.apart _ _ eI)
    refine ⟨h', s.toks, m, σ.del I, .type "StopIteration", rfl, fun a => (hd a).imp (fun e => by unfold Led.del; split; rfl; exact e) id, hA2, ⟨e, oe, ves, rfl, he, hce, hde, hA1.fresh hse, hA1.newB hse, hA1.freshF hse, .inl h1, h2⟩, h⟩
/-! sets -/
theorem set_of {φ : Led} {h : Heap} {S : PKey → Bool} {k : Nat} {a : Addr} (hA : At c.w c.B ((c.L, m) :: c.fs) h (σ.un φ)) (hs : σ a = some (.set S k)) : h.SetOf (pk c.prog c.w) a S k := by
  obtain ⟨o, ho, hx, es, ep, t, hd, h1, h2, h3, h4, h5⟩ := hA.led a _ (Led.un_left hs)
  refine ⟨o, es, ep, t, ho, hx, hd, fun e he => ?_, fun k => ?_, h3, h4, h5⟩
  · obtain ⟨k, hk, hh⟩ := h1 e he
    refine ⟨⟨k, decide_eq_true hk, hh⟩, ?_⟩
    rcases key_shape hk with ⟨i, t, r, _⟩ | ⟨b, r, _⟩ | ⟨x, t, r, _⟩ <;> rw [r] <;> rfl
  · rw [h2 k]
    exact ⟨fun ⟨e, he, q⟩ => ⟨e, he, decide_eq_true q⟩, fun ⟨e, he, q⟩ => ⟨e, he, of_decide_eq_true q⟩⟩
theorem set_back {h : Heap} {S : PKey → Bool} {k : Nat} {a : Addr} (hs : h.SetOf (pk c.prog c.w) a S k) : ∃ o, h.get? a = some o ∧ (AO.set S k).ok c.w o := by
  obtain ⟨o, es, ep, t, ho, hx, hd, h1, h2, h3, h4, h5⟩ := hs
  refine ⟨o, ho, hx, es, ep, t, hd, fun e he => ?_, fun k => ?_, h3, h4, h5⟩
  · obtain ⟨⟨k, hk, hh⟩, _⟩ := h1 e he
    exact ⟨k, of_decide_eq_true hk, hh⟩
  · rw [h2 k]
    exact ⟨fun ⟨e, he, q⟩ => ⟨e, he, of_decide_eq_true q⟩, fun ⟨e, he, q⟩ => ⟨e, he, decide_eq_true q⟩⟩
theorem scan_of {v : Value} {k : PKey} (h : (er v).key = some k) : v.scannable = true := by
  rcases key_shape h with ⟨i, t, r, _⟩ | ⟨b, r, _⟩ | ⟨x, t, r, _⟩ <;> rw [r] <;> rfl
theorem W_inSet {S : PKey → Bool} {j : Nat} {k : PKey} {key : Value} {a : Addr} (hs : σ a = some (.set S j)) (hk : (er key).key = some k) (h : Q (.bool (S k)) m σ) : W c (compareOp .In key (.ref a)) Q E m σ := fun φ s hd hA =>
  wpAny_inSet_of (decide_eq_true hk) (scan_of hk) (set_of hA hs) (PQ.here hd hA h)
theorem W_getMethod_setAdd {S : PKey → Bool} {j : Nat} {pl : Sem Bool} {a : Addr} {Q : Value × List Value → Loc → Led → Prop} (hs : σ a = some (.set S j)) (h : Q (.builtin "set.add", [.ref a]) m σ) : W c (getMethod (.ref a) "add" pl) Q E m σ := fun φ s hd hA =>
  getMethod_set_add (set_of hA hs) ⟨s.heap, s.toks, m, σ, rfl, hd, hA, h⟩
theorem W_setAdd {S : PKey → Bool} {j : Nat} {k : PKey} {key : Value} {a : Addr} (hs : σ a = some (.set S j)) (hk : (er key).key = some k) (hz : j + 1 < 4096) (h : Q .none m (σ.set a (.set (fun k' => S k' || decide (k' = k)) (if S k then j else j + 1)))) : W c (call (.builtin "set.add") [.ref a, key]) Q E m σ := fun φ s hd hA =>
  call_set_add (decide_eq_true hk) (scan_of hk) (set_of hA hs) hz fun h' hsb hs' => by
    obtain ⟨o, ho, hok⟩ := set_back hs'
    exact PQ.upd hd hA hs hsb ho hok h
theorem W_newSet (h : ∀ a, σ a = none → Q (.ref a) m (σ.set a (.set (fun _ => false) 0))) : W c (call (.type "set") []) Q E m σ := fun φ s hd hA =>
  call_set_0 fun led => PQ.new (a := s.heap.objs.size) (tk := s.toks) (ao := .set (fun _ => false) 0) hd hA (fun b o e => Heap.get?_push_of_some _ e) (Heap.get?_push_size _ rfl)
    ⟨⟨rfl, rfl, rfl⟩, #[], 0, .fresh 0 0 led, rfl, fun e he => (by simp at he), fun k => (by simp), (by decide), (by cases led <;> rfl), rfl⟩ (Nat.le_refl _) (h _)
end
end Mine
end
section
namespace Mine
/-- a dict by keys and values, the keys' forms left out -/
noncomputable def kv2 (es : List (AV × AV)) : List (Option PKey × AV) := es.map fun e => (e.1.key, e.2)
theorem dget_kv2 {es : List (AV × AV)} {k : PKey} : dget es k = ((kv2 es).find? fun e => decide (e.1 = some k)).map (·.2) := by
  unfold dget kv2
  rw [List.find?_map, Option.map_map]
  rfl
theorem pairs_backP {prog : Program} {w : World} {ds : List DictEntry} {kvs : List (PKey × Value)} (hp : Pairs (pk prog w) ds kvs) : (∀ e ∈ ds, ∃ k, (pk prog w).is k e.key = true ∧ e.hash = (pk prog w).hash k) →
    Rel2 (entryOk w) ds (ds.map fun e => (er e.key, er e.val)) ∧ kv2 (ds.map fun e => (er e.key, er e.val)) = kvs.map fun q => (some q.1, er q.2) := by
  induction hp with
  | nil => exact fun _ => ⟨trivial, rfl⟩
  | @cons e kv ds kvs h1 h2 h3 ih =>
    intro hk
    obtain ⟨r1, r2⟩ := ih fun e he => hk e (.tail _ he)
    have a : (er e.key).key = some kv.1 := of_decide_eq_true h1
    obtain ⟨k', b1, b2⟩ := hk e (.head _)
    have : k' = kv.1 := (pk prog w).inj _ _ _ b1 h1
    subst this
    refine ⟨⟨⟨rfl, rfl, kv.1, a, b2⟩, r1⟩, ?_⟩
    unfold kv2 at r2 ⊢
    rw [List.map_cons, List.map_cons, List.map_cons, r2, a, h2]
theorem dict_backP {prog : Program} {w : World} {h : Heap} {d : Addr} {kvs : List (PKey × Value)} (hD : h.DictOf (pk prog w) d kvs) : ∃ o es ep, h.get? d = some o ∧ (AO.dict es ep).ok w o ∧ kv2 es = kvs.map fun q => (some q.1, er q.2) := by
  obtain ⟨o, es, ep, ho, hx, hd, hk, hp, hn⟩ := hD
  obtain ⟨r1, r2⟩ := pairs_backP hp fun e he => hk e (by simpa using he)
  refine ⟨o, _, ep, ho, ⟨hx, es.toList, by simpa using hd, r1, ?_⟩, r2⟩
  have e1 : ∀ l : List (AV × AV), l.map (·.1.key) = (kv2 l).map (·.1) := fun l => by unfold kv2; rw [List.map_map]; rfl
  rw [e1, r2, List.map_map]
  have : (kvs.map ((fun x : Option PKey × AV => x.1) ∘ fun q => (some q.1, er q.2))) = (kvs.map (·.1)).map some := by rw [List.map_map]; rfl
  rw [this]
  exact List.pairwise_map.mpr (hn.imp fun h q => h (Option.some.inj q))
section
variable {K : Params → Frag} {n : Nat} {c : Cx} {E : Value → Loc → Led → Prop} {m : Loc} {σ : Led} {env : Env} {d : Addr} {es : List (AV × AV)} {ep : Nat} {k : PKey} {key : Value}
theorem W_Delete1 {t : Expr} {pos : Pos} {Q : Flow → Loc → Led → Prop} (h : W c (delete t env) (fun _ => Q .next) E m σ) : W c (exec (.Delete [t] pos) env) Q E m σ := fun φ s hd hA =>
  wpAny_Delete (wpAny_deleteEach_cons (wpAny_mono (h φ s hd hA) (fun _ _ x => wpAny_deleteEach_nil x) fun _ _ x => x))
theorem W_deleteSub {o i : Expr} {pos : Pos} {Q : Unit → Loc → Led → Prop} (h : W c (eval o env) (fun ov m σ => W c (eval i env) (fun iv m σ => W c (delItem ov iv) Q E m σ) E m σ) E m σ) : W c (delete (.Subscript o i pos) env) Q E m σ := fun _ _ hd hA =>
  delete_Subscript (W_two hd hA h)
/-- a dict of the ledger by the plain kind -/
theorem dictP {φ : Led} {h : Heap} (hA : At c.w c.B ((c.L, m) :: c.fs) h (σ.un φ)) (hd : σ d = some (.dict es ep)) : ∃ kvs, h.DictOf (pk c.prog c.w) d kvs ∧ kv2 es = kvs.map fun q => (some q.1, er q.2) := by
  obtain ⟨o, ho, hx, ds, hdat, hr, hn⟩ := hA.led d _ (Led.un_left hd)
  obtain ⟨kvs, h1, h2, h3, h4⟩ := rel_pairs (prog := c.prog) (X := formOf es) hr fun e he k hk => formOf_mem hn he hk
  refine ⟨kvs, ⟨o, ds.toArray, ep, ho, hx, hdat, rel_keys hr, ?_, ?_⟩, ?_⟩
  · have : ∀ {ds : List DictEntry} {kvs : List (PKey × Value)}, Pairs (pkX c.prog c.w (formOf es)) ds kvs → Pairs (pk c.prog c.w) ds kvs := by
      intro ds kvs p
      induction p with
      | nil => exact .nil
      | cons a b _ ih => exact .cons (decide_eq_true (by have := of_decide_eq_true a; rw [this.1]; exact this.2)) b ih
    simpa using this h1
  · have : (kvs.map (fun q => some q.1)).Nodup := by rw [h3]; exact hn
    have e : kvs.map (fun q => some q.1) = (kvs.map (·.1)).map some := by rw [List.map_map]; rfl
    rw [e] at this
    exact (List.pairwise_map.mp this).imp fun h q => h (congrArg some q)
  · apply List.ext_getElem?
    intro i
    have a1 : (kvs.map (fun q => some q.1))[i]? = (es.map (·.1.key))[i]? := by rw [h3]
    have a2 : (kvs.map (fun q => er q.2))[i]? = (es.map (·.2))[i]? := by rw [h4]
    unfold kv2
    rw [List.getElem?_map, List.getElem?_map] at a1 a2 ⊢
    cases q1 : es[i]? with
    | none =>
      rw [q1] at a1
      cases q2 : kvs[i]? with
      | none => rfl
      | some _ => rw [q2] at a1; cases a1
    | some e =>
      rw [q1] at a1 a2
      cases q2 : kvs[i]? with
      | none => rw [q2] at a1; cases a1
      | some p =>
        rw [q2] at a1 a2
        simp only [Option.map_some, Option.some.injEq] at a1 a2 ⊢
        rw [← a1, a2]
theorem W_delItem {Q : Unit → Loc → Led → Prop} (hd : σ d = some (.dict es ep)) (hk : (er key).key = some k) (hv : (dget es k).isSome = true) (hz : es.length ≤ sizeLine)
    (h : ∀ es' ep', (∀ k', dget es' k' = if k' = k then none else dget es k') → es'.length ≤ es.length → Q () m (σ.set d (.dict es' ep'))) : W c (delItem (.ref d) key) Q E m σ := fun φ s hd' hA => by
  obtain ⟨kvs, hD, he⟩ := dictP hA hd
  have hlen : kvs.length = es.length := by have := congrArg List.length he; unfold kv2 at this; simpa using this.symm
  have hval : ∀ (kvs : List (PKey × Value)) (k : PKey), ((kvs.map fun q => (some q.1, er q.2)).find? fun e => decide (e.1 = some k)).map (·.2) = (valueAt kvs k).map er := fun kvs k => by
    unfold valueAt
    rw [List.find?_map, Option.map_map, Option.map_map]
    have : ((fun e : Option PKey × AV => decide (e.1 = some k)) ∘ fun q : PKey × Value => (some q.1, er q.2)) = fun kv => decide (kv.1 = k) := by funext q; simp
    rw [this]; rfl
  have hg : ∀ k, dget es k = (valueAt kvs k).map er := fun k => by rw [dget_kv2, he, hval]
  unfold delItem
  try with_reducible refine wpAny_holding ?_
  refine wpAny_bind (wpAny_sequenceKey hD.typeIs (by decide) ?_)
  refine wpAny_bind (wpAny_callSpecial?_slot (name := Str.ofString "__delitem__") hD.typeIs PySem.F.slot_dict_delitem
    (call_meetsIn PySem.F.slot_dict_delitem hD.typeIs PySem.F.entry_dict_delitem (PySem.F.args_dict_delitem_2 _ _) (meets_dict_delitem_pairs (pk c.prog c.w) d (decide_eq_true hk)) ⟨kvs, hD, by rw [hlen]; exact hz, ?_, fun h' hmm hs => ?_⟩))
  · rw [hg] at hv; cases q : valueAt kvs k with
    | none => rw [q] at hv; cases hv
    | some _ => rfl
  · obtain ⟨o, es', ep', ho, hok, he'⟩ := dict_backP hmm
    refine wpAny_pure (PQ.upd hd' hA hd hs ho hok (h es' ep' (fun k' => ?_) ?_))
    · rw [dget_kv2, he', hval, hg]
      unfold valueAt without
      rw [List.find?_filter]
      by_cases q : k' = k
      · subst q
        rw [if_pos rfl, List.find?_eq_none.mpr]
        · rfl
        · intro e _; simp
      · rw [if_neg q]
        congr 3
        funext e
        by_cases r : e.1 = k' <;> simp [r, q]
    · have : es'.length = (without kvs k).length := by have := congrArg List.length he'; unfold kv2 at this; simpa using this
      rw [this, ← hlen]; exact List.length_filter_le ..
end
end Mine
end
section
namespace Mine
/-! the search for a ring, without the program -/
/-- the top of the stack first: the next node, the stack behind it -/
noncomputable def popS : List (AV × List AV) → Option (AV × List (AV × List AV))
  | [] => none
  | (_, []) :: r => popS r
  | (n, s :: t) :: r => some (s, (n, t) :: r)
/-- from the entry of key k up to the top, in the order in which they were laid -/
noncomputable def ringOf (k : PKey) (st : List (AV × List AV)) (node : AV) : List AV :=
  ((st.reverse.map (·.1)).dropWhile fun v => decide (v.key ≠ some k)) ++ [node]
noncomputable def onS (k : PKey) (st : List (AV × List AV)) : Bool := st.any fun e => decide (e.1.key = some k)
noncomputable def seenAdd (S : PKey → Bool) (k : PKey) : PKey → Bool := fun k' => S k' || decide (k' = k)
inductive Run (su : PKey → List AV) : AV → List (AV × List AV) → (PKey → Bool) → List AV ⊕ (PKey → Bool) → Prop
  | ring {v st S k} : v.key = some k → S k = true → onS k st = true → Run su v st S (.inl (ringOf k st v))
  | oldEnd {v st S k} : v.key = some k → S k = true → onS k st = false → popS st = none → Run su v st S (.inr S)
  | oldNext {v st S k v' st' r} : v.key = some k → S k = true → onS k st = false → popS st = some (v', st') → Run su v' st' S r → Run su v st S r
  | newEnd {v st S k} : v.key = some k → S k = false → popS ((v, su k) :: st) = none → Run su v st S (.inr (seenAdd S k))
  | newNext {v st S k v' st' r} : v.key = some k → S k = false → popS ((v, su k) :: st) = some (v', st') → Run su v' st' (seenAdd S k) r → Run su v st S r
inductive RunAll (su : PKey → List AV) : List AV → (PKey → Bool) → Option (List AV) → Prop
  | nil {S} : RunAll su [] S none
  | skip {v r S k o} : v.key = some k → S k = true → RunAll su r S o → RunAll su (v :: r) S o
  | ring {v r S k l} : v.key = some k → S k = false → Run su v [] S (.inl l) → RunAll su (v :: r) S (some l)
  | go {v r S S' k o} : v.key = some k → S k = false → Run su v [] S (.inr S') → RunAll su r S' o → RunAll su (v :: r) S o
/-! the same in the ledger -/
structure SE where
  node : AV
  q : Addr
  I : Addr
  s : Addr
  su : List AV
  i : Nat
noncomputable def SE.e (x : SE) : AV × List AV := (x.node, x.su.drop x.i)
noncomputable def idxS (k : PKey) (st : List SE) : Option AV := (st.findIdx? fun x => decide (x.node.key = some k)).map fun (i : Nat) => AV.int i
structure FCI (σ₀ τ : Led) (sl il se nd : Addr) (st : List SE) (S : PKey → Bool) (j : Nat) : Prop where
  keep : ∀ b o, σ₀ b = some o → τ b = some o
  hsl : τ sl = some (.list (st.map (·.node)))
  hil : τ il = some (.list (st.map fun x => .ref x.q))
  hse : τ se = some (.set S j)
  hnd : ∃ es ep, τ nd = some (.dict es ep) ∧ (∀ k, dget es k = idxS k st) ∧ es.length ≤ j
  hst : ∀ x ∈ st, τ x.q = some (.exact (wrapObj x.I)) ∧ τ x.I = some (isLIter x.s x.i) ∧ σ₀ x.s = some (.list x.su) ∧ σ₀ x.I = none ∧ σ₀ x.q = none
  nI : (st.map (·.I)).Nodup
  f1 : σ₀ sl = none
  f2 : σ₀ il = none
  f3 : σ₀ se = none
  f4 : σ₀ nd = none
  ne : sl ≠ il
  keys : (st.map (·.node.key)).Nodup
  seen : ∀ x ∈ st, ∃ k, x.node.key = some k ∧ S k = true
variable {σ₀ τ : Led} {sl il se nd : Addr} {st : List SE} {S : PKey → Bool} {j : Nat}
theorem idxS_push {k : PKey} {x : SE} (hno : ∀ y ∈ st, y.node.key ≠ x.node.key) : idxS k (st ++ [x]) = if x.node.key = some k then some (.int st.length) else idxS k st := by
  unfold idxS
  rw [List.findIdx?_append]
  by_cases q : x.node.key = some k
  · rw [if_pos q]
    have : st.findIdx? (fun x => decide (x.node.key = some k)) = none := List.findIdx?_eq_none_iff.mpr fun y hy => decide_eq_false fun z => hno y hy (z.trans q.symm)
    rw [this]
    simp [List.findIdx?_cons, q]
  · rw [if_neg q]
    cases st.findIdx? (fun x => decide (x.node.key = some k)) with
    | some i => simp
    | none => simp [List.findIdx?_cons, q]
/-- a node laid onto the stack; the ledger is what the program has made of it -/
theorem FCI.push (F : FCI σ₀ τ sl il se nd st S j) {x : SE} {k : PKey} {τ' : Led} {es : List (AV × AV)} {ep : Nat} (hk : x.node.key = some k) (hS : S k = false) (hi : x.i = 0)
    (h0 : ∀ b o, τ b = some o → b ≠ sl → b ≠ il → b ≠ se → b ≠ nd → τ' b = some o) (h1 : τ' sl = some (.list (st.map (·.node) ++ [x.node]))) (h2 : τ' il = some (.list (st.map (fun x => AV.ref x.q) ++ [.ref x.q])))
    (h3 : τ' se = some (.set (seenAdd S k) (j + 1))) (h4 : τ' nd = some (.dict es ep)) (h5 : ∀ k', dget es k' = if k' = k then some (.int st.length) else idxS k' st) (h6 : es.length ≤ j + 1)
    (h7 : τ' x.q = some (.exact (wrapObj x.I))) (h8 : τ' x.I = some (isLIter x.s x.i)) (h9 : σ₀ x.s = some (.list x.su)) (h10 : σ₀ x.I = none) (h11 : σ₀ x.q = none) (hI : τ x.I = none) :
    FCI σ₀ τ' sl il se nd (st ++ [x]) (seenAdd S k) (j + 1) := by
  have hno : ∀ y ∈ st, y.node.key ≠ x.node.key := fun y hy e => by
    obtain ⟨k', e1, e2⟩ := F.seen y hy
    have : k' = k := Option.some.inj (e1.symm.trans (e.trans hk))
    rw [this, hS] at e2; cases e2
  have off : ∀ {b o}, σ₀ b = some o → b ≠ sl ∧ b ≠ il ∧ b ≠ se ∧ b ≠ nd := fun {b o} e => ⟨ne_of_led e F.f1, ne_of_led e F.f2, ne_of_led e F.f3, ne_of_led e F.f4⟩
  have offE : ∀ {b : Addr} {o : Obj}, τ b = some (.exact o) → b ≠ sl ∧ b ≠ il ∧ b ≠ se ∧ b ≠ nd := fun {b o} e => by
    obtain ⟨es, ep, hn, _⟩ := F.hnd
    refine ⟨fun q => ?_, fun q => ?_, fun q => ?_, fun q => ?_⟩
    · rw [q, F.hsl] at e; cases e
    · rw [q, F.hil] at e; cases e
    · rw [q, F.hse] at e; cases e
    · rw [q, hn] at e; cases e
  have offL : ∀ {b : Addr} {P : Obj → Prop}, τ b = some (.like P) → b ≠ sl ∧ b ≠ il ∧ b ≠ se ∧ b ≠ nd := fun {b o} e => by
    obtain ⟨es, ep, hn, _⟩ := F.hnd
    refine ⟨fun q => ?_, fun q => ?_, fun q => ?_, fun q => ?_⟩
    · rw [q, F.hsl] at e; cases e
    · rw [q, F.hil] at e; cases e
    · rw [q, F.hse] at e; cases e
    · rw [q, hn] at e; cases e
  refine ⟨fun b o e => let z := off e; h0 b o (F.keep b o e) z.1 z.2.1 z.2.2.1 z.2.2.2, by rw [h1]; simp, by rw [h2]; simp, h3, ⟨es, ep, h4, fun k' => ?_, h6⟩, fun y hy => ?_, ?_, F.f1, F.f2, F.f3, F.f4, F.ne, ?_, fun y hy => ?_⟩
  · rw [h5, idxS_push hno, hk]
    by_cases q : k' = k
    · rw [if_pos q, if_pos (by rw [q])]
    · rw [if_neg q, if_neg fun z => q (Option.some.inj z).symm]
  · rcases List.mem_append.mp hy with hy | hy
    · obtain ⟨a1, a2, a3, a4, a5⟩ := F.hst y hy
      have z1 := offE a1
      have z2 := offL a2
      exact ⟨h0 _ _ a1 z1.1 z1.2.1 z1.2.2.1 z1.2.2.2, h0 _ _ a2 z2.1 z2.2.1 z2.2.2.1 z2.2.2.2, a3, a4, a5⟩
    · rw [List.mem_singleton.mp hy]; exact ⟨h7, h8, h9, h10, h11⟩
  · rw [List.map_append]
    refine List.nodup_append.mpr ⟨F.nI, by simp, fun b hb b' hb' e => ?_⟩
    obtain ⟨y, hy, rfl⟩ := List.mem_map.mp hb
    have e' : y.I = x.I := e.trans (List.mem_singleton.mp hb')
    have := (F.hst y hy).2.1
    rw [e', hI] at this; cases this
  · rw [List.map_append]
    refine List.nodup_append.mpr ⟨F.keys, by simp, fun b hb b' hb' e => ?_⟩
    obtain ⟨y, hy, rfl⟩ := List.mem_map.mp hb
    exact hno y hy (e.trans (List.mem_singleton.mp hb'))
  · rcases List.mem_append.mp hy with hy | hy
    · obtain ⟨k', e1, e2⟩ := F.seen y hy
      exact ⟨k', e1, by unfold seenAdd; rw [e2]; rfl⟩
    · rw [List.mem_singleton.mp hy]; exact ⟨k, hk, by unfold seenAdd; simp⟩
/-- the top's iterator goes on -/
theorem FCI.adv {x : SE} (F : FCI σ₀ τ sl il se nd (st ++ [x]) S j) : FCI σ₀ (τ.set x.I (isLIter x.s (x.i + 1))) sl il se nd (st ++ [{ x with i := x.i + 1 }]) S j := by
  obtain ⟨es, ep, hn, h2, h3⟩ := F.hnd
  have hx := F.hst x (List.mem_append_right _ (.head _))
  have oth : ∀ {b : Addr} {o : AO}, τ b = some o → (∀ P, o ≠ .like P) → (τ.set x.I (isLIter x.s (x.i + 1))) b = some o := fun e q => Led.set_other hx.2.1 e fun r => q _ r.symm
  have hnd' := F.nI
  rw [List.map_append] at hnd'
  have hnI : ∀ y ∈ st, y.I ≠ x.I := fun y hy e => (List.nodup_append.mp hnd').2.2 _ (List.mem_map.mpr ⟨y, hy, rfl⟩) _ (by simp) e
  refine ⟨fun b o e => (Led.set_ne (ne_of_led e hx.2.2.2.1)).trans (F.keep b o e), ?_, ?_, oth F.hse (by simp), ⟨es, ep, oth hn (by simp), fun k => ?_, h3⟩, fun y hy => ?_, ?_, F.f1, F.f2, F.f3, F.f4, F.ne, ?_, fun y hy => ?_⟩
  · have := oth F.hsl (by simp); rw [this]; simp
  · have := oth F.hil (by simp); rw [this]; simp
  · rw [h2]; unfold idxS; simp [List.findIdx?_append, List.findIdx?_cons]
  · rcases List.mem_append.mp hy with hy | hy
    · obtain ⟨a1, a2, a3⟩ := F.hst y (List.mem_append_left _ hy)
      exact ⟨oth a1 (by simp), (Led.set_ne (hnI y hy)).trans a2, a3⟩
    · rw [List.mem_singleton.mp hy]
      exact ⟨oth hx.1 (by simp), Led.set_self, hx.2.2⟩
  · have := F.nI; simpa using this
  · have := F.keys; simpa using this
  · rcases List.mem_append.mp hy with hy | hy
    · exact F.seen y (List.mem_append_left _ hy)
    · rw [List.mem_singleton.mp hy]; exact F.seen x (List.mem_append_right _ (.head _))
/-- the top is taken off -/
theorem FCI.pop {x : SE} {k : PKey} {τ' : Led} {es : List (AV × AV)} {ep : Nat} (F : FCI σ₀ τ sl il se nd (st ++ [x]) S j) (hk : x.node.key = some k)
    (h0 : ∀ b o, τ b = some o → b ≠ sl → b ≠ il → b ≠ nd → b ≠ x.I → τ' b = some o) (h1 : τ' sl = some (.list (st.map (·.node)))) (h2 : τ' il = some (.list (st.map fun x => .ref x.q)))
    (h4 : τ' nd = some (.dict es ep)) (h5 : ∀ k', dget es k' = if k' = k then none else idxS k' (st ++ [x])) (h6 : es.length ≤ j) : FCI σ₀ τ' sl il se nd st S j := by
  obtain ⟨es₀, ep₀, hn, _, _⟩ := F.hnd
  have hx := F.hst x (List.mem_append_right _ (.head _))
  have hnd' := F.nI
  rw [List.map_append] at hnd'
  have hnI : ∀ y ∈ st, y.I ≠ x.I := fun y hy e => (List.nodup_append.mp hnd').2.2 _ (List.mem_map.mpr ⟨y, hy, rfl⟩) _ (by simp) e
  have hkn := F.keys
  rw [List.map_append] at hkn
  have hno : ∀ y ∈ st, y.node.key ≠ x.node.key := fun y hy e => (List.nodup_append.mp hkn).2.2 _ (List.mem_map.mpr ⟨y, hy, rfl⟩) _ (by simp) e
  have ot : ∀ {b : Addr} {o : AO}, τ b = some o → (∀ l, o ≠ .list l) → (∀ l e, o ≠ .dict l e) → b ≠ x.I → τ' b = some o := fun {b o} e q r z => h0 b o e (fun w => by rw [w, F.hsl] at e; cases e; exact q _ rfl) (fun w => by rw [w, F.hil] at e; cases e; exact q _ rfl) (fun w => by rw [w, hn] at e; cases e; exact r _ _ rfl) z
  refine ⟨fun b o e => h0 b o (F.keep b o e) (ne_of_led e F.f1) (ne_of_led e F.f2) (ne_of_led e F.f4) (ne_of_led e hx.2.2.2.1), h1, h2, ot F.hse (by simp) (by simp) (fun w => by have := F.hse; rw [w, hx.2.1] at this; cases this), ⟨es, ep, h4, fun k' => ?_, h6⟩, fun y hy => ?_, (List.nodup_append.mp hnd').1, F.f1, F.f2, F.f3, F.f4, F.ne, (List.nodup_append.mp hkn).1, fun y hy => F.seen y (List.mem_append_left _ hy)⟩
  · rw [h5, idxS_push hno, hk]
    by_cases q : k' = k
    · rw [if_pos q]
      have : st.findIdx? (fun x => decide (x.node.key = some k')) = none := List.findIdx?_eq_none_iff.mpr fun y hy => decide_eq_false fun z => hno y hy (by rw [z, hk, q])
      unfold idxS; rw [this]; rfl
    · rw [if_neg q, if_neg fun z => q (Option.some.inj z).symm]
  · obtain ⟨a1, a2, a3⟩ := F.hst y (List.mem_append_left _ hy)
    exact ⟨ot a1 (by simp) (by simp) (fun w => by rw [w, hx.2.1] at a1; cases a1), ot a2 (by simp [isLIter]) (by simp [isLIter]) (hnI y hy), a3⟩
end Mine
end
section
namespace Mine
noncomputable def unsN (S : PKey → Bool) (n : NI) : Bool := !(S (n.node.key.getD (.num 0)))
noncomputable def unsC (S : PKey → Bool) (ns : List NI) : Nat := (ns.filter (unsN S)).length
noncomputable def unsW (S : PKey → Bool) (ns : List NI) : Nat := ((ns.filter (unsN S)).map fun n => n.su.length + 1).sum
theorem unsN_add {S : PKey → Bool} {k : PKey} {n : NI} (h : unsN (seenAdd S k) n = true) : unsN S n = true := by
  unfold unsN seenAdd at *
  cases q : S (n.node.key.getD (.num 0)) with
  | false => rfl
  | true => rw [q] at h; simp at h
theorem unsW_le {S : PKey → Bool} {k : PKey} (ns : List NI) : unsW (seenAdd S k) ns ≤ unsW S ns ∧ unsC (seenAdd S k) ns ≤ unsC S ns := by
  unfold unsW unsC
  induction ns with
  | nil => simp
  | cons e r ih =>
    rw [List.filter_cons, List.filter_cons]
    cases q : unsN (seenAdd S k) e with
    | true => simp [unsN_add q]; exact ⟨ih.1, ih.2⟩
    | false =>
      cases q2 : unsN S e with
      | true => simp; omega
      | false => simpa using ih
theorem unsW_add {S : PKey → Bool} {k : PKey} {ns : List NI} {n : NI} (hn : n ∈ ns) (hk : n.node.key = some k) (hS : S k = false) : unsW (seenAdd S k) ns + (n.su.length + 1) ≤ unsW S ns ∧ unsC (seenAdd S k) ns + 1 ≤ unsC S ns := by
  induction ns with
  | nil => cases hn
  | cons e r ih =>
    rcases List.mem_cons.mp hn with rfl | hn
    · have q1 : unsN S n = true := by unfold unsN; rw [hk]; show (!S k) = true; rw [hS]; rfl
      have q2 : unsN (seenAdd S k) n = false := by unfold unsN seenAdd; rw [hk]; simp
      have := unsW_le (S := S) (k := k) r
      unfold unsW unsC at *
      rw [List.filter_cons, List.filter_cons, q1, q2]
      simp; omega
    · have ih := ih hn
      unfold unsW unsC at *
      rw [List.filter_cons, List.filter_cons]
      cases q : unsN (seenAdd S k) e with
      | true => simp [unsN_add q]; omega
      | false =>
        cases q2 : unsN S e with
        | true => simp; omega
        | false => simpa using ih
/-- what is left to do on the stack -/
noncomputable def stW (st : List SE) : Nat := (st.map fun x => x.su.length - x.i).sum
theorem stW_push (st : List SE) (x : SE) : stW (st ++ [x]) = stW st + (x.su.length - x.i) := by unfold stW; simp
noncomputable def tops (st : List SE) : List (AV × List AV) := st.reverse.map SE.e
theorem tops_push (st : List SE) (x : SE) : tops (st ++ [x]) = x.e :: tops st := by unfold tops; simp
theorem onS_tops {k : PKey} {st : List SE} : onS k (tops st) = (idxS k st).isSome := by
  unfold onS tops idxS
  rw [List.any_map, List.any_reverse, Option.isSome_map, List.findIdx?_isSome]
  rfl
theorem ring_tops {k : PKey} {st : List SE} {v : AV} {i : Nat} (h : idxS k st = some (.int i)) : ringOf k (tops st) v = (st.map (·.node)).drop i ++ [v] := by
  unfold ringOf tops
  rw [← List.map_reverse, List.reverse_reverse, List.map_map]
  congr 1
  have e : (st.map ((fun x : AV × List AV => x.1) ∘ SE.e)) = st.map (·.node) := rfl
  rw [e]
  unfold idxS at h
  obtain ⟨j, hj, hj'⟩ := Option.map_eq_some_iff.mp h
  have : j = i := by have := AV.int.inj hj'; omega
  rw [this] at hj
  clear h hj' e this
  induction st generalizing i with
  | nil => simp at hj
  | cons x r ih =>
    rw [List.findIdx?_cons] at hj
    rw [List.map_cons, List.dropWhile_cons]
    by_cases q : x.node.key = some k
    · simp [q] at hj
      subst hj
      simp [q]
    · simp only [q, decide_false, Bool.false_eq_true, if_false] at hj
      obtain ⟨i', hj', rfl⟩ := Option.map_eq_some_iff.mp hj
      simp only [ne_eq, q, not_false_eq_true, decide_true, if_true, List.drop_succ_cons]
      exact ih hj'
theorem range_drop : ∀ (xs : List AV) (i : Nat), (List.range (xs.length - i)).filterMap (fun k => xs[i + k]?) = xs.drop i
  | [], i => by simp
  | a :: r, 0 => by
    have ih := range_drop r 0
    simp only [Nat.sub_zero, Nat.zero_add, List.drop_zero] at ih ⊢
    rw [List.length_cons, List.range_succ_eq_map, List.filterMap_cons, List.filterMap_map]
    simp only [List.getElem?_cons_zero]
    congr 1
  | a :: r, i + 1 => by
    have ih := range_drop r i
    rw [List.length_cons, Nat.succ_sub_succ, List.drop_succ_cons, ← ih]
    congr 1
    funext k
    rw [show i + 1 + k = (i + k) + 1 by omega, List.getElem?_cons_succ]
/-- a slice from an index on -/
theorem pickA_from {xs : List AV} {i : Nat} (h : i ≤ xs.length) : pickA xs (some i) none none = xs.drop i := by
  unfold pickA sliceBounds sliceRange
  simp only [Option.getD_none]
  have e1 : max 0 (min (if (i : Int) < 0 then (i : Int) + xs.length else i) xs.length) = (i : Int) := by
    rw [if_neg (Int.not_lt.mpr (Int.natCast_nonneg i)), Int.min_eq_left (Int.ofNat_le.mpr h), Int.max_eq_right (Int.natCast_nonneg i)]
  simp only [show (1 : Int) > 0 from by decide, if_true] at e1 ⊢
  rw [e1]
  have e2 : ((if (i : Int) < (xs.length : Int) then ((xs.length : Int) - i + 1 - 1) / 1 else 0) : Int).toNat = xs.length - i := by
    rw [Int.ediv_one, Int.add_sub_cancel]
    split
    · exact Int.toNat_sub ..
    · rename_i q
      exact (Nat.sub_eq_zero_of_le (Nat.not_lt.mp fun z => q (Int.ofNat_lt.mpr z))).symm
  rw [e2, ← range_drop xs i, List.filterMap_map]
  congr 1
  funext k
  show xs[((i : Int) + 1 * (k : Int)).toNat]? = xs[i + k]?
  rw [Int.one_mul]; rfl
structure FNames (m : Loc) (d sl il se nd : Addr) : Prop where
  n1 : m "n2i" = some (.ref d)
  n2 : m "stack" = some (.ref sl)
  n3 : m "itstack" = some (.ref il)
  n4 : m "seen" = some (.ref se)
  n5 : m "node2stacki" = some (.ref nd)
/-- what the inner loop is given -/
inductive Inn (su : PKey → List AV) (ns : List NI) (σ : Led) (d sl il se nd : Addr) (v₀ : AV) (S₀ : PKey → Bool) (nW : Nat) (m : Loc) (τ : Led) : Prop
  | mk (h : FNames m d sl il se nd) (st : List SE) (S : PKey → Bool) (j : Nat) (F : FCI σ τ sl il se nd st S j) (hc : j + unsC S ns ≤ ns.length) (hw : unsW S ns + stW st ≤ nW) (he : ∀ x ∈ st, ∃ nx ∈ ns, x.su = nx.su) (hj : st.length ≤ j)
      (hn : ∀ v' st'', popS (tops st) = some (v', st'') → ∀ r, Run su v' st'' S r → Run su v₀ [] S₀ r) (hd : popS (tops st) = none → Run su v₀ [] S₀ (.inr S)) : Inn su ns σ d sl il se nd v₀ S₀ nW m τ
inductive FOut (su : PKey → List AV) (ns : List NI) (σ : Led) (d sl il se nd : Addr) (i : Nat) (m : Loc) (τ : Led) : Prop
  | mk (h : FNames m d sl il se nd) (S : PKey → Bool) (j : Nat) (F : FCI σ τ sl il se nd [] S j) (hc : j + unsC S ns ≤ ns.length) (hr : ∀ o, RunAll su ((ns.map NI.node).drop i) S o → RunAll su (ns.map NI.node) (fun _ => false) o) : FOut su ns σ d sl il se nd i m τ
inductive FIn (su : PKey → List AV) (ns : List NI) (σ : Led) (d sl il se nd : Addr) (v₀ : AV) (S₀ : PKey → Bool) (nW : Nat) (m : Loc) (τ : Led) : Prop
  | mk (h : FNames m d sl il se nd) (av : AV) (k : PKey) (st : List SE) (S : PKey → Bool) (j : Nat) (hm : m "node" = some av) (hk : av.key = some k) (hn : ∃ n' ∈ ns, n'.node.key = some k) (F : FCI σ τ sl il se nd st S j) (hc : j + unsC S ns ≤ ns.length) (hw : nW = unsW S ns + stW st)
      (he : ∀ x ∈ st, ∃ nx ∈ ns, x.su = nx.su) (hj : st.length ≤ j) (hr : ∀ r, Run su av (tops st) S r → Run su v₀ [] S₀ r) : FIn su ns σ d sl il se nd v₀ S₀ nW m τ
inductive FPop (ns : List NI) (σ : Led) (d sl il se nd : Addr) (S : PKey → Bool) (j : Nat) (st' : List SE) (nn : Nat) (m : Loc) (τ : Led) : Prop
  | mk (h : FNames m d sl il se nd) (st : List SE) (F : FCI σ τ sl il se nd st S j) (hp : popS (tops st) = popS (tops st')) (hw : stW st ≤ stW st') (hl : nn = st.length) (he : ∀ x ∈ st, ∃ nx ∈ ns, x.su = nx.su) (hj : st.length ≤ j) : FPop ns σ d sl il se nd S j st' nn m τ
inductive RetOK (σ : Led) (P : List AV → Prop) (v : Value) (τ : Led) : Prop
  | mk (hk : ∀ b o, σ b = some o → τ b = some o) (l : List AV) (a : Addr) (e : v = .ref a) (hl : τ a = some (.list l)) (hn : σ a = none) (hp : P l) : RetOK σ P v τ
inductive FRes (P : Option (List AV) → Prop) (σ : Led) (v : Value) (τ : Led) : Prop
  | none (e : v = .none) (h : P none) : FRes P σ v τ
  | ring (l : List AV) (a : Addr) (e : v = .ref a) (hl : τ a = some (.list l)) (hn : σ a = Option.none) (h : P (some l)) (hz : l.length ≤ 1000) (hne : l ≠ []) : FRes P σ v τ
structure FEnd (P : Option (List AV) → Prop) (σ : Led) (m : Loc) (v : Value) (m' : Loc) (τ : Led) : Prop where
  em : m' = m
  hk : ∀ b o, σ b = some o → τ b = some o
  hr : FRes P σ v τ
noncomputable def FlowPost (N B : Loc → Led → Prop) (R : Value → Led → Prop) : Flow → Loc → Led → Prop
  | .next, m, τ => N m τ
  | .ret v, _, τ => R v τ
  | .brk, m, τ => B m τ
  | .cont, _, _ => False
theorem dget_put_new {es : List (AV × AV)} {k : PKey} {key v : AV} (hk : key.key = some k) (h : dget es k = none) (k' : PKey) : dget (dput es k key v) k' = (if k' = k then some v else dget es k') ∧ (dput es k key v).length = es.length + 1 := by
  have hf : es.find? (fun e => decide (e.1.key = some k)) = none := by unfold dget at h; simpa using h
  have hi : kidx es k = none := by
    unfold kidx
    refine List.findIdx?_eq_none_iff.mpr fun e he => ?_
    have := List.find?_eq_none.mp hf e he
    simpa using this
  unfold dput
  rw [hi]
  refine ⟨?_, by simp⟩
  unfold dget
  rw [List.find?_append]
  by_cases q : k' = k
  · subst q
    rw [hf, if_pos rfl]
    simp [hk]
  · rw [if_neg q]
    have : ¬ key.key = some k' := fun z => q (Option.some.inj (z.symm.trans hk))
    cases es.find? (fun e => decide (e.1.key = some k')) <;> simp [this]
end Mine
end
section
namespace Mine
/-- inside a comprehension: its own names, the frame around it as it is -/
noncomputable def Cx.comp (c : Cx) (m : Loc) (C : Addr) : Cx := { c with L := C, fs := (c.L, m) :: c.fs }
theorem Okay.comp {c : Cx} {m : Loc} {C : Addr} (ok : Okay c) : Okay (c.comp m C) := by
  obtain ⟨env, outer, h1, h2, h3⟩ := ok.stack
  refine ⟨env, outer, h1, h2, fun e he => ?_⟩
  obtain ⟨a, L, b, d⟩ := h3 e he
  refine ⟨a, L, b, .inr ?_⟩
  rcases d with rfl | d
  · exact .head _
  · exact .tail _ d
theorem Good.comp {K : Params → Frag} {n : Nat} {c : Cx} {m : Loc} {C : Addr} (G : Good K n c) : Good K n (c.comp m C) := ⟨G.X, G.T, G.mods, G.ok.comp, G.depth, G.units⟩
structure IterS (c : Cx) (I : Addr) (xs : List AV) (stable : Led → Prop) (mk : Nat → AO) : Prop extends Iter c I xs stable mk where
  self : ∀ {m : Loc} {τ : Led} {Q : Value → Loc → Led → Prop} {E : Value → Loc → Led → Prop}, stable τ → τ I = none → Q (.ref I) m (τ.set I (mk 0)) → W c (pyIter (.ref I)) Q E m (τ.set I (mk 0))
noncomputable def testsOf (ifs : List Expr) (env : Env) : Sem Bool := forIn ifs true fun c r => if r = true then do let ok ← isTrue c env (eval c env); pure (ForInStep.yield ok) else pure (ForInStep.yield r)
noncomputable abbrev NoE : Value → Loc → Led → Prop := fun _ _ _ => False
inductive CompGoal (c : Cx) (m : Loc) (env : Env) (scope : Scope) (cl : List (Str × Addr)) (target elt : Expr) (ifs : List Expr) (F : Addr → Led → Prop) (it : Value) (σ : Led) : Prop
  | mk (I : Addr) (xs : List AV) (stable : Led → Prop) (mk : Nat → AO) (τ : Led) (Inv : Nat → List AV → Led → Prop) (e : it = .ref I) (IT : ∀ C, IterS (c.comp m C) I xs stable mk) (es : σ = τ.set I (mk 0)) (hI : τ I = none)
    (hst : ∀ i ys τ, Inv i ys τ → stable τ ∧ ys.length ≤ 1000000) (h0 : Inv 0 [] τ)
    (turn : ∀ C i x v m' ys τ, xs[i]? = some x → er v = x → Inv i ys τ → W (c.comp m C) (assign target (compEnvC scope cl C env) v) (fun _ m' τ => W (c.comp m C) (testsOf ifs (compEnvC scope cl C env)) (fun ok m' τ =>
      if ok = true then W (c.comp m C) (eval elt (compEnvC scope cl C env)) (fun y _ τ => Inv (i + 1) (ys ++ [er y]) τ) NoE m' τ else Inv (i + 1) ys τ) NoE m' τ) NoE m' τ)
    (fin : ∀ ys τ a, Inv xs.length ys τ → τ a = none → F a (τ.set a (.list ys))) : CompGoal c m env scope cl target elt ifs F it σ
theorem At.unC {w : World} {B h h' : Heap} {C : Addr} {m' : Loc} {fs : List (Addr × Loc)} {σ : Led} (x : At w B ((C, m') :: fs) h σ) (hs : Heap.SameBut C h h') : At w B fs h' σ := by
  have nd := List.nodup_cons.mp x.nodup
  refine x.pop.off hs (x.above _ (.head _)) ?_ fun p hp q => nd.1 (List.mem_map.mpr ⟨p, hp, q.symm⟩)
  cases e : σ C with
  | none => rfl
  | some ao => exact (x.apart _ _ e _ (.head _) rfl).elim
theorem Led.un_set_right {τ φ : Led} {a : Addr} {o : AO} (h : τ a = none) : τ.un (φ.set a o) = (τ.un φ).set a o := by
  funext b; unfold Led.un Led.set
  by_cases q : b = a
  · subst q; simp [h]
  · simp only [if_neg q]
theorem PE.no {c : Cx} {φ : Led} {s : Shared} {e : Value} {s' : Shared} (x : PE c φ s NoE e s') : False := by obtain ⟨_, _, _, _, _, _, _, _, _, h⟩ := x; exact h
/-- where a comprehension stands -/
inductive CompSt (c : Cx) (m : Loc) (φ : Led) (s : Shared) (C I a : Addr) (mk : Nat → AO) (Inv : Nat → List AV → Led → Prop) (N : Nat) (n : Nat) (s' : Shared) : Prop
  | mk (h' : Heap) (tk : Nat) (m' : Loc) (τ' : Led) (ys : List AV) (i : Nat) (e : s' = { s with heap := h', toks := tk }) (d : Dis ((τ'.set I (mk i)).set a (.list ys)) φ) (x : At c.w c.B ((C, m') :: (c.L, m) :: c.fs) h' (((τ'.set I (mk i)).set a (.list ys)).un φ))
      (hI : τ' I = none) (ha : τ' a = none) (hv : Inv i ys τ') (hi : i ≤ N) (hn : n = N + 1 - i) : CompSt c m φ s C I a mk Inv N n s'
/-- the loop of a comprehension, behind the making of its list and its names -/
theorem comp_loop {c : Cx} {m : Loc} {env : Env} {elt target iter : Expr} {ifs : List Expr} {scope : Scope} {cl : List (Str × Addr)} {pos : Pos} {F : Addr → Led → Prop} {φ : Led} {s : Shared} {RR : Value → Addr → Result → Shared → Prop}
    {I C a : Addr} {xs : List AV} {stable : Led → Prop} {mk : Nat → AO} {τ : Led} {Inv : Nat → List AV → Led → Prop}
    (ht : ∀ it v, letOwnedTupleGo target it v = pure ()) (IT : IterS (c.comp m C) I xs stable mk) (hI : τ I = none) (hτa : τ a = none) (haI : a ≠ I)
    (hinv : ∀ i ys τ, Inv i ys τ → stable τ ∧ ys.length ≤ 1000000) (h0 : Inv 0 [] τ)
    (turn : ∀ i x v m' ys τ, xs[i]? = some x → er v = x → Inv i ys τ → W (c.comp m C) (assign target (compEnvC scope cl C env) v) (fun _ m' τ => W (c.comp m C) (testsOf ifs (compEnvC scope cl C env)) (fun ok m' τ =>
      if ok = true then W (c.comp m C) (eval elt (compEnvC scope cl C env)) (fun y _ τ => Inv (i + 1) (ys ++ [er y]) τ) NoE m' τ else Inv (i + 1) ys τ) NoE m' τ) NoE m' τ)
    (fin : ∀ ys τ, Inv xs.length ys τ → τ a = none → F a (τ.set a (.list ys))) (hd1 : Dis ((τ.set I (mk 0)).set a (.list [])) φ)
    (hRR : ∀ h' tk m' σ', Dis σ' φ → At c.w c.B ((C, m') :: (c.L, m) :: c.fs) h' (σ'.un φ) → F a σ' → RR (.ref a) C (.ok .next) { s with heap := h', toks := tk })
    {h₁ : Heap} {tk₁ : Nat} {m₁ : Loc} (hA2 : At c.w c.B ((C, m₁) :: (c.L, m) :: c.fs) h₁ (((τ.set I (mk 0)).set a (.list [])).un φ)) :
    codeAny (model c.prog c.w) c.A (.compLoop (.ListComp elt [⟨target, iter, ifs, 0⟩] scope pos) 0 (.ref I) (.ref a) (compEnvC scope cl C env)) (RR (.ref a) C) { s with heap := h₁, toks := tk₁ } := by
  refine codeAny_compLoop_tests (CompSt c m φ s C I a mk Inv xs.length)
    ?_ (xs.length + 1) ⟨h₁, _, m₁, τ, [], 0, rfl, hd1, hA2, hI, hτa, h0, Nat.zero_le _, rfl⟩ (ht _)
  rintro n s' ⟨h', tk, m', τ', ys, i, rfl, hd', hA', hI', ha', hinv', hi, rfl⟩
  obtain ⟨hst, hlen⟩ := hinv i ys τ' hinv'
  by_cases hlt : i < xs.length
  · have W1 : W (c.comp m C) (pyNext (.ref I)) (NextP xs[i] m' (τ'.set I (mk (i + 1)))) NoE m' (τ'.set I (mk i)) := IT.item hst hI' (by simp [hlt]) fun v hv => ⟨v, rfl, hv, rfl, rfl⟩
    have na : ∀ k, (τ'.set I (mk k)) a = none := fun k => (Led.set_ne haI).trans ha'
    have F1 := W_frameE (Led.one a (.list ys)) W1 (Dis.one (na i))
    rw [Led.un_one (na i)] at F1
    refine wpAny_mono (F1 φ { s with heap := h', toks := tk } hd' hA') (fun r s₁ x => ?_) fun _ _ x => x.no.elim
    obtain ⟨h₁, tk₁, m₁, σ₁, rfl, hd₁, hA₁, σ₂, rfl, _, v, rfl, hv, rfl, rfl⟩ := x
    rw [Led.un_one (na (i + 1))] at hd₁ hA₁
    -- the two that the turn does not know of
    have two : ∀ τ : Led, τ I = none → τ a = none → τ.un ((Led.one I (mk (i + 1))).set a (.list ys)) = (τ.set I (mk (i + 1))).set a (.list ys) := fun τ h1 h2 => by rw [Led.un_set_right h2, Led.un_one h1]
    have dis2 : ∀ τ : Led, τ I = none → τ a = none → Dis τ ((Led.one I (mk (i + 1))).set a (.list ys)) := fun τ h1 h2 b => by
      by_cases q : b = a
      · exact .inl (q ▸ h2)
      · by_cases r : b = I
        · exact .inl (r ▸ h1)
        · right; rw [Led.set_ne q]; exact if_neg r
    have back : ∀ τ : Led, Dis τ ((Led.one I (mk (i + 1))).set a (.list ys)) → τ I = none ∧ τ a = none := fun τ h => by
      refine ⟨(h I).resolve_right ?_, (h a).resolve_right ?_⟩
      · rw [Led.set_ne (Ne.symm haI)]; unfold Led.one; rw [if_pos rfl]; intro q; cases q
      · rw [Led.set_self]; intro q; cases q
    have W2 := turn i xs[i] v m₁ ys τ' (by simp [hlt]) hv hinv'
    have F2 := W_frameE _ W2 (dis2 τ' hI' ha')
    rw [two τ' hI' ha'] at F2
    refine wpAny_mono (F2 φ { s with heap := h₁, toks := tk₁ } hd₁ hA₁) (fun _ s₂ x => ?_) fun _ _ x => x.no.elim
    obtain ⟨h₂, tk₂, m₂, σ₂, rfl, hd₂, hA₂, τ₂, rfl, hdd₂, W3⟩ := x
    refine wpAny_mono (W_frameE _ W3 hdd₂ φ { s with heap := h₂, toks := tk₂ } hd₂ hA₂) (fun ok s₃ x => ?_) fun _ _ x => x.no.elim
    obtain ⟨h₃, tk₃, m₃, σ₃, rfl, hd₃, hA₃, τ₃, rfl, hdd₃, W4⟩ := x
    cases ok with
    | false =>
      simp only [Bool.false_eq_true, if_false] at W4 ⊢
      obtain ⟨b1, b2⟩ := back τ₃ hdd₃
      rw [two τ₃ b1 b2] at hd₃ hA₃
      exact ⟨xs.length + 1 - (i + 1), by omega, h₃, tk₃, m₃, τ₃, ys, i + 1, rfl, hd₃, hA₃, b1, b2, W4, hlt, rfl⟩
    | true =>
      simp only [if_true] at W4 ⊢
      refine wpAny_mono (W_frameE _ W4 hdd₃ φ { s with heap := h₃, toks := tk₃ } hd₃ hA₃) (fun y s₄ x => ?_) fun _ _ x => x.no.elim
      obtain ⟨h₄, tk₄, m₄, σ₄, rfl, hd₄, hA₄, τ₄, rfl, hdd₄, hi4⟩ := x
      obtain ⟨b1, b2⟩ := back τ₄ hdd₄
      rw [two τ₄ b1 b2] at hd₄ hA₄
      have W5 : W (c.comp m C) (call (.builtin "list.append") [.ref a, y]) (fun _ m₅ σ₅ => m₅ = m₄ ∧ σ₅ = (τ₄.set I (mk (i + 1))).set a (.list (ys ++ [er y]))) NoE m₄ ((τ₄.set I (mk (i + 1))).set a (.list ys)) :=
        W_append Led.set_self ⟨rfl, by rw [Led.set_set]⟩ (Nat.le_trans hlen (by decide))
      refine wpAny_mono (W5 φ { s with heap := h₄, toks := tk₄ } hd₄ hA₄) (fun _ s₅ x => ?_) fun _ _ x => x.no.elim
      obtain ⟨h₅, tk₅, m₅, σ₅, rfl, hd₅, hA₅, rfl, rfl⟩ := x
      exact ⟨xs.length + 1 - (i + 1), by omega, h₅, tk₅, m₅, τ₄, ys ++ [er y], i + 1, rfl, hd₅, hA₅, b1, b2, hi4, hlt, rfl⟩
  · have hi' : i = xs.length := by omega
    subst hi'
    have W1 : W (c.comp m C) (pyNext (.ref I)) (fun r m₁ σ₁ => r = none ∧ m₁ = m' ∧ σ₁ = τ') NoE m' (τ'.set I (mk xs.length)) := IT.done hst hI' ⟨rfl, rfl, rfl⟩
    have na : (τ'.set I (mk xs.length)) a = none := (Led.set_ne haI).trans ha'
    have F1 := W_frameE (Led.one a (.list ys)) W1 (Dis.one na)
    rw [Led.un_one na] at F1
    refine wpAny_mono (F1 φ { s with heap := h', toks := tk } hd' hA') (fun r s₁ x => ?_) fun _ _ x => x.no.elim
    obtain ⟨h₁, tk₁, m₁, σ₁, rfl, hd₁, hA₁, σ₂, rfl, _, rfl, rfl, rfl⟩ := x
    rw [Led.un_one ha'] at hd₁ hA₁
    exact hRR h₁ tk₁ m₁ _ hd₁ hA₁ (fin ys _ hinv' ha')
/-- the loop of a comprehension, its list new -/
theorem comp_block {c : Cx} {m : Loc} {env : Env} {elt target iter : Expr} {ifs : List Expr} {scope : Scope} {cl : List (Str × Addr)} {pos : Pos} {F : Addr → Led → Prop} {φ σ : Led} {s : Shared} {it : Value} {E : Value → Shared → Prop} {RR : Value → Addr → Result → Shared → Prop}
    (hcell : ∀ y ∈ scope.names, y.2 ≠ .cell) (hkind : scope.kind = .function) (ht : ∀ it v, letOwnedTupleGo target it v = pure ())
    (hd : Dis σ φ) (hA : At c.w c.B ((c.L, m) :: c.fs) s.heap (σ.un φ)) (g : CompGoal c m env scope cl target elt ifs F it σ)
    (hRR : ∀ a C h' tk m' σ', Dis σ' φ → At c.w c.B ((C, m') :: (c.L, m) :: c.fs) h' (σ'.un φ) → F a σ' → RR (.ref a) C (.ok .next) { s with heap := h', toks := tk }) :
    wpAny (model c.prog c.w) c.A (newList []) (fun acc s₃ => wpAny (model c.prog c.w) c.A (newFunctionEnv scope env.globals cl [] env.qual none .none (some env)) (fun cenv s₄ =>
      codeAny (model c.prog c.w) c.A (.compStart (.ListComp elt [⟨target, iter, ifs, 0⟩] scope pos) 0 it acc { cenv with scope := relabel scope env }) (RR acc cenv.locals) s₄) E s₃) E s := by
  obtain ⟨I, xs, stable, mk, τ, Inv, rfl, IT, rfl, hI, hinv, h0, turn, fin⟩ := g
  refine wpAny_newObj_type (T := "list") (wpAny_newFunctionEnv hcell (by intro y hy; simp at hy) (fun h₁ hns₁ hsb₁ => ?_) hkind)
  dsimp only at hns₁ hsb₁ ⊢
  -- the new list and the new names
  generalize hC : (s.heap.push { cls := .type "list", dict := none, data := .seq ([] : List Value).toArray }).objs.size = C at hns₁ hsb₁ ⊢
  have ha : s.heap.objs.size < C := by rw [← hC, Heap.size_push]; exact Nat.lt_succ_self _
  generalize haa : s.heap.objs.size = a at ha ⊢
  have old : ∀ b o, s.heap.get? b = some o → h₁.get? b = some o := fun b o e => hsb₁.extBut b o (fun q => by have := Heap.lt_size e; rw [q, haa] at this; exact absurd (Nat.lt_trans ha this) (Nat.lt_irrefl _)) (Heap.get?_push_of_some _ (Heap.get?_push_of_some _ e))
  have hga : h₁.get? a = some { cls := .type "list", dict := none, data := .seq ([] : List Value).toArray } := hsb₁.extBut a _ (Nat.ne_of_lt ha) (Heap.get?_push_of_some _ (by rw [← haa]; exact Heap.get?_push_size _ rfl))
  have hA1 : At c.w c.B ((c.L, m) :: c.fs) h₁ (((τ.set I (mk 0)).set a (.list [])).un φ) := Led.un_set ▸ hA.alloc old hga ⟨[], 0, rfl, rfl⟩ (by rw [haa]; exact Nat.le_refl _)
  have hfa := Led.un_none (hA.fresh (a := a) (by rw [haa]; exact Nat.le_refl _))
  have hd1 : Dis ((τ.set I (mk 0)).set a (.list [])) φ := hd.set hfa.2
  have haI : a ≠ I := fun e => by rw [e, Led.set_self] at hfa; cases hfa.1
  have hτa : τ a = none := by have := hfa.1; rw [Led.set_ne haI] at this; exact this
  have hA2 : At c.w c.B ((C, eraseM fun x => ([] : List (Str × Value)).reverse.lookup x) :: (c.L, m) :: c.fs) h₁ (((τ.set I (mk 0)).set a (.list [])).un φ) := by
    have hsC : s.heap.objs.size ≤ C := by rw [haa]; exact Nat.le_of_lt ha
    refine ⟨hA1.keep, fun p hp => ?_, fun p hp => ?_, List.nodup_cons.mpr ⟨fun hm => ?_, hA1.nodup⟩, hA1.led, hA1.new, fun e ao q p hp => ?_⟩
    · rcases List.mem_cons.mp hp with rfl | hp
      · exact ⟨_, hns₁, fun _ => rfl⟩
      · exact hA1.frames p hp
    · rcases List.mem_cons.mp hp with rfl | hp
      · exact hA.newB hsC
      · exact hA1.above p hp
    · obtain ⟨p, hp, q⟩ := List.mem_map.mp hm
      exact hA.freshF hsC p hp q.symm
    · rcases List.mem_cons.mp hp with rfl | hp
      · intro r
        rw [Led.un_set] at q
        by_cases z : e = a
        · exact absurd (z.symm.trans r) (Nat.ne_of_lt ha)
        · rw [Led.set_ne z, r, hA.fresh hsC] at q; cases q
      · exact hA1.apart e ao q p hp
  -- the loop
  have loop : ∀ (h₁ : Heap) (tk₁ : Nat) (m₁ : Loc), At c.w c.B ((C, m₁) :: (c.L, m) :: c.fs) h₁ (((τ.set I (mk 0)).set a (.list [])).un φ) →
      codeAny (model c.prog c.w) c.A (.compLoop (.ListComp elt [⟨target, iter, ifs, 0⟩] scope pos) 0 (.ref I) (.ref a) (compEnvC scope cl C env)) (RR (.ref a) C) { s with heap := h₁, toks := tk₁ } := by
    intro h₁ tk₁ m₁ hA2
    exact comp_loop ht (IT C) hI hτa haI hinv h0 (fun i x v m' ys τ => turn C i x v m' ys τ) (fun ys τ hi ha => fin ys τ a hi ha) hd1 (fun h' tk m' σ' hd' hA' hF => hRR a C h' tk m' σ' hd' hA' hF) hA2
  refine codeAny_compStart_list (loop _ _ _ hA2) ?_
  have W0 : W (c.comp m C) (pyIter (.ref I)) (fun r m₁ σ₁ => r = .ref I ∧ m₁ = (eraseM fun x => ([] : List (Str × Value)).reverse.lookup x) ∧ σ₁ = τ.set I (mk 0)) NoE (eraseM fun x => ([] : List (Str × Value)).reverse.lookup x) (τ.set I (mk 0)) := (IT C).self (hinv 0 [] τ h0).1 hI ⟨rfl, rfl, rfl⟩
  have F0 := W_frameE (Led.one a (.list [])) W0 (Dis.one hfa.1)
  rw [Led.un_one hfa.1] at F0
  refine wpAny_mono (F0 φ { s with heap := h₁, toks := s.toks + ([] : List (Str × Value)).length } hd1 hA2) (fun it' s' x => ?_) fun _ _ x => x.no.elim
  obtain ⟨h₂, tk₂, m₂, σ₂, rfl, hd₂, hA₂, σ₃, rfl, _, rfl, rfl, rfl⟩ := x
  rw [Led.un_one hfa.1] at hA₂
  exact loop h₂ tk₂ _ hA₂
section
variable {c : Cx} {E : Value → Loc → Led → Prop} {m : Loc} {σ : Led} {env : Env} {elt target iter : Expr} {ifs : List Expr} {scope : Scope} {cl : List (Str × Addr)} {pos : Pos}
/-- a list comprehension with one clause -/
theorem W_ListComp {Q : Value → Loc → Led → Prop} (hclos : closureFor scope env = pure cl)
    (h : W c (eval iter env) (fun xv m σ => W c (pyIter xv) (fun it m σ => CompGoal c m env scope cl target elt ifs (fun a τ => Q (.ref a) m τ) it σ) E m σ) E m σ)
    (hcell : ∀ y ∈ scope.names, y.2 ≠ .cell := by decide) (hkind : scope.kind = .function := by rfl) (hnames : ∀ x ∈ scope.names, x.2 = .local → scope.names.lookup x.1 = some .local := by decide)
    (ht : ∀ it v, letOwnedTupleGo target it v = pure () := by intro _ _; rfl) (hs : ∀ x, foldedSetIterable iter env x = pure x := by intro _; rfl) :
    W c (eval (.ListComp elt [⟨target, iter, ifs, 0⟩] scope pos) env) Q E m σ := fun φ s hd hA => by
  rw [eval_ListComp]
  refine wpAny_comprehension_free (use := none) rfl hs hclos hkind hnames (wpAny_mono (h φ s hd hA) (fun xv s₁ x => ?_) fun _ _ x => x)
  obtain ⟨h₁, tk₁, m₁, σ₁, rfl, hd₁, hA₁, x⟩ := x
  refine wpAny_mono (x φ _ hd₁ hA₁) (fun it s₂ x => ?_) fun _ _ x => x.re
  obtain ⟨h₂, tk₂, m₂, σ₂, rfl, hd₂, hA₂, g⟩ := x
  refine comp_block (c := c) (s := { s with heap := h₂, toks := tk₂ }) (RR := fun acc C => compPost (model c.prog c.w) c.A (PE c φ s E) none (PQ c φ s Q) acc C) hcell hkind ht hd₂ hA₂ g fun a C h' tk m' σ' hd' hA' hF => ?_
  obtain ⟨mC, hnC, _⟩ := hA'.frames (C, m') (.head _)
  exact ⟨mC, hnC, fun h'' hs'' => ⟨h'', tk, m₂, σ', rfl, hd', hA'.unC hs'', hF⟩⟩
/-- y = [..], y a name of the frame itself -/
theorem W_Assign_ListComp {y : Str} {py spos : Pos} {Q : Flow → Loc → Led → Prop} (hL : env.locals = c.L) (hclos : closureFor scope env = pure cl)
    (h : W c (eval iter env) (fun xv m σ => W c (pyIter xv) (fun it m σ => CompGoal c m env scope cl target elt ifs (fun a τ => Q .next (m.set y (.ref a)) τ) it σ) E m σ) E m σ)
    (hsw : swapsWith (.ListComp elt [⟨target, iter, ifs, 0⟩] scope pos) (some (.Name y py)) spos.line env = pure true := by rfl)
    (hcell : ∀ y ∈ scope.names, y.2 ≠ .cell := by decide) (hkind : scope.kind = .function := by rfl) (hnames : ∀ x ∈ scope.names, x.2 = .local → scope.names.lookup x.1 = some .local := by decide)
    (ht : ∀ it v, letOwnedTupleGo target it v = pure () := by intro _ _; rfl) (hs : ∀ x, foldedSetIterable iter env x = pure x := by intro _; rfl) (hk : env.scope.kind = .function := by rfl) (hy : env.kindOf y = some .local := by rfl) :
    W c (exec (.Assign [.Name y py] (.ListComp elt [⟨target, iter, ifs, 0⟩] scope pos) spos) env) Q E m σ := fun φ s hd hA => by
  rw [exec_Assign_Name_used _ _ _ _ hsw]
  refine wpAny_bind (wpAny_standAt (wpAny_bind ?_))
  show wpAny _ c.A (do let _ ← comprehension (.ListComp elt [⟨target, iter, ifs, 0⟩] scope pos) scope env _ (newList []) false (eval iter env) (some (assign (.Name y py) env))) _ _ s
  refine wpAny_bind (wpAny_mono (wpAny_comprehension_free (use := some (assign (.Name y py) env)) (Q := fun _ s' => PQ c φ s Q .next s') rfl hs hclos hkind hnames
    (wpAny_mono (h φ s hd hA) (fun xv s₁ x => ?_) fun _ _ x => x)) (fun _ s' hq => wpAny_pure (wpAny_pure hq)) fun _ _ e => e)
  obtain ⟨h₁, tk₁, m₁, σ₁, rfl, hd₁, hA₁, x⟩ := x
  refine wpAny_mono (x φ _ hd₁ hA₁) (fun it s₂ x => ?_) fun _ _ x => x.re
  obtain ⟨h₂, tk₂, m₂, σ₂, rfl, hd₂, hA₂, g⟩ := x
  refine comp_block (c := c) (s := { s with heap := h₂, toks := tk₂ }) (RR := fun acc C => compPost (model c.prog c.w) c.A (PE c φ s E) (some (assign (.Name y py) env)) (fun _ s' => PQ c φ s Q .next s') acc C) hcell hkind ht hd₂ hA₂ g fun a C h' tk m' σ' hd' hA' hF => ?_
  have hAp := hA'.pop
  obtain ⟨mL, hnL, heL⟩ := hAp.frames _ (.head _)
  obtain ⟨mC, hnC, _⟩ := hA'.frames (C, m') (.head _)
  have hLC : c.L ≠ C := fun e => (List.nodup_cons.mp hA'.nodup).1 (List.mem_map.mpr ⟨(c.L, m₂), .head _, e⟩)
  show wpAny _ c.A (assign (.Name y py) env (.ref a)) _ _ _
  refine wpAny_assign_Name (wpAny_storeName_local hy (hL ▸ hnL) (fun h₃ hn₃ hs₃ => ?_) (by rw [hk]; rfl))
  have hA3 : At c.w c.B ((c.L, m₂.set y (.ref a)) :: (C, m') :: c.fs) h₃ (σ'.un φ) := by
    have hsw : At c.w c.B ((c.L, m₂) :: (C, m') :: c.fs) h' (σ'.un φ) := by
      have nd := List.nodup_cons.mp hA'.nodup
      refine ⟨hA'.keep, fun p hp => ?_, fun p hp => ?_, ?_, hA'.led, hA'.new, fun b ao e p hp => ?_⟩
      · rcases List.mem_cons.mp hp with rfl | hp
        · exact hA'.frames _ (.tail _ (.head _))
        · rcases List.mem_cons.mp hp with rfl | hp
          · exact hA'.frames _ (.head _)
          · exact hA'.frames _ (.tail _ (.tail _ hp))
      · rcases List.mem_cons.mp hp with rfl | hp
        · exact hA'.above (c.L, m₂) (.tail _ (.head _))
        · rcases List.mem_cons.mp hp with rfl | hp
          · exact hA'.above (C, m') (.head _)
          · exact hA'.above p (.tail _ (.tail _ hp))
      · have nd2 := List.nodup_cons.mp nd.2
        refine List.nodup_cons.mpr ⟨fun hm => ?_, List.nodup_cons.mpr ⟨fun hm => nd.1 (.tail _ hm), nd2.2⟩⟩
        rcases List.mem_cons.mp hm with e | hm
        · exact hLC e
        · exact nd2.1 hm
      · rcases List.mem_cons.mp hp with rfl | hp
        · exact hA'.apart b ao e (c.L, m₂) (.tail _ (.head _))
        · rcases List.mem_cons.mp hp with rfl | hp
          · exact hA'.apart b ao e (C, m') (.head _)
          · exact hA'.apart b ao e p (.tail _ (.tail _ hp))
    refine hsw.store (hL ▸ hs₃) ⟨_, hL ▸ hn₃, fun z => ?_⟩
    unfold Loc.set
    by_cases q : z = y
    · simp [q, er]
    · simp only [if_neg q]; exact heL z
  refine ⟨mC, hnC.sameBut (hL ▸ hs₃) (Ne.symm hLC), fun h₄ hs₄ => ?_⟩
  refine ⟨h₄, _, m₂.set y (.ref a), σ', rfl, hd', ?_, hF⟩
  have nd := List.nodup_cons.mp hA3.nodup
  have nd2 := List.nodup_cons.mp nd.2
  have e1 : At c.w c.B ((c.L, m₂.set y (.ref a)) :: c.fs) h₃ (σ'.un φ) := by
    refine ⟨hA3.keep, fun p hp => ?_, fun p hp => ?_, List.nodup_cons.mpr ⟨fun hm => nd.1 (.tail _ hm), nd2.2⟩, hA3.led, hA3.new, fun b ao e p hp => ?_⟩
    · rcases List.mem_cons.mp hp with rfl | hp
      · exact hA3.frames _ (.head _)
      · exact hA3.frames p (.tail _ (.tail _ hp))
    · rcases List.mem_cons.mp hp with rfl | hp
      · exact hA3.above (c.L, m₂.set y (.ref a)) (.head _)
      · exact hA3.above p (.tail _ (.tail _ hp))
    · rcases List.mem_cons.mp hp with rfl | hp
      · exact hA3.apart b ao e (c.L, m₂.set y (.ref a)) (.head _)
      · exact hA3.apart b ao e p (.tail _ (.tail _ hp))
  refine e1.off hs₄ (hA3.above (C, m') (.tail _ (.head _))) ?_ fun p hp q => ?_
  · cases z : σ'.un φ C with
    | none => rfl
    | some ao => exact (hA3.apart C ao z (C, m') (.tail _ (.head _)) rfl).elim
  · rcases List.mem_cons.mp hp with rfl | hp
    · exact hLC q.symm
    · exact nd2.1 (List.mem_map.mpr ⟨p, hp, q.symm⟩)
end
end Mine
end
section
namespace Mine
section
variable {K : Params → Frag} {n : Nat} {c : Cx} {E : Value → Loc → Led → Prop} {m : Loc} {σ : Led} {env : Env}
theorem W_tests_nil {Q : Bool → Loc → Led → Prop} (h : Q true m σ) : W c (testsOf [] env) Q E m σ := W_pure h
theorem W_tests_one {e : Expr} {Q : Bool → Loc → Led → Prop} (h : W c (isTrue e env (eval e env)) Q E m σ) : W c (testsOf [e] env) Q E m σ := fun φ s hd hA => wpAny_tests_one (h φ s hd hA)
theorem IterS.list (hh : c.A.handled = none) (I l : Addr) (xs : List AV) : IterS c I xs (fun τ => τ l = some (.list xs)) (isLIter l) where
  toIter := Iter.list hh I l xs
  self := fun {m τ Q E} st hI h φ s hd hA => by
    obtain ⟨o, ho, k⟩ := hA.led I _ (Led.un_left Led.set_self)
    exact wpAny_pyIter_listiter ⟨o, ho, k⟩ (PQ.here hd hA h)
/-! cells -/
theorem W_loadCell {x : Str} {a : Addr} {av : AV} {Q : Value → Loc → Led → Prop} (hc : env.cells.lookup x = some a) (ha : σ a = some (.cell (some av))) (h : ∀ v, er v = av → Q v m σ)
    (hk : env.scope.kind = .function := by rfl) (hl : env.kindOf x = some .cell := by rfl) : W c (loadName env x) Q E m σ := fun φ s hd hA => by
  obtain ⟨o, ho, u, hu, e⟩ := hA.led a _ (Led.un_left ha)
  cases u with
  | none => cases e
  | some v => exact wpAny_loadName_cell hk hl hc ⟨o, ho, hu⟩ (PQ.here hd hA (h v (Option.some.inj e)))
theorem W_storeCell {x : Str} {a : Addr} {v₀ : Option AV} {v : Value} {Q : Unit → Loc → Led → Prop} (hc : env.cells.lookup x = some a) (ha : σ a = some (.cell v₀)) (h : Q () m (σ.set a (.cell (some (er v)))))
    (hk : env.scope.kind = .function := by rfl) (hl : env.kindOf x = some .cell := by rfl) : W c (storeName env x v) Q E m σ := fun φ s hd hA => by
  obtain ⟨o, ho, u, hu, e⟩ := hA.led a _ (Led.un_left ha)
  refine wpAny_storeName_cell hk hl hc ⟨o, ho, hu⟩ fun h' hv hs => ?_
  obtain ⟨o', ho', hd'⟩ := hv
  exact PQ.upd (tk := s.toks) (ao := .cell (some (er v))) hd hA ha hs ho' ⟨some v, hd', rfl⟩ h
/-! the values of a dict -/
noncomputable def isVView (d : Addr) : AO := .like fun o => o.cls = .type "dict_values" ∧ o.data = .fields #[.ref d]
noncomputable def isVIter (d : Addr) (n ep : Nat) (i : Nat) : AO := .like fun o => o.cls = .type "dict_valueiterator" ∧ o.data = .fields #[.ref d, .int i 0, .int n 0, .int ep 0]
theorem IterS.values (hh : c.A.handled = none) (I d : Addr) (es : List (AV × AV)) (ep : Nat) : IterS c I (es.map (·.2)) (fun τ => τ d = some (.dict es ep)) (isVIter d es.length ep) where
  item := fun {i x m τ Q E} st hI hx h φ s hd hA => by
    have hne := ne_of_led st hI
    have st' : (τ.set I (isVIter d es.length ep i)) d = some (.dict es ep) := (Led.set_ne hne).trans st
    obtain ⟨kvs, hD, hlen, hk⟩ := dictX hA st'
    obtain ⟨e, he, rfl⟩ : ∃ e, es[i]? = some e ∧ e.2 = x := by
      rw [List.getElem?_map] at hx
      cases q : es[i]? with
      | none => rw [q] at hx; cases hx
      | some e => rw [q] at hx; exact ⟨e, rfl, by simpa using hx⟩
    obtain ⟨k, v, h1, h2, h3, h4⟩ := hk i e he
    obtain ⟨o, ho, hc, hdat⟩ := hA.led I _ (Led.un_left Led.set_self)
    refine wpAny_pyNext_values_item (knd := pkX c.prog c.w (formOf es)) (d := d) (i := i) (ep := ep) ⟨o, ho, hc, by rw [hdat, hlen]⟩ hD h1 fun h' hit hs => ?_
    obtain ⟨o', ho', hc', hd'⟩ := hit
    exact PQ.next (o' := isVIter d es.length ep (i + 1)) hd hA hs ho' ⟨hc', by rw [hd', hlen]⟩ (h v h3)
  done := fun {m τ Q E} st hI h φ s hd hA => by
    have hne := ne_of_led st hI
    have st' : (τ.set I (isVIter d es.length ep (es.map (·.2)).length)) d = some (.dict es ep) := (Led.set_ne hne).trans st
    obtain ⟨kvs, hD, hlen, hk⟩ := dictX hA st'
    obtain ⟨o, ho, hc, hdat⟩ := hA.led I _ (Led.un_left Led.set_self)
    exact wpAny_pyNext_values_end (knd := pkX c.prog c.w (formOf es)) (d := d) (i := (es.map (·.2)).length) (ep := ep) hh ⟨o, ho, hc, by rw [hdat, hlen]⟩ hD (by simp [hlen]) fun h' hs => PQ.gone hI hd hA hs h
  self := fun {m τ Q E} st hI h φ s hd hA => by
    obtain ⟨o, ho, k⟩ := hA.led I _ (Led.un_left Led.set_self)
    exact wpAny_pyIter_valiter ⟨o, ho, k⟩ (PQ.here hd hA h)
theorem W_dictValues {d : Addr} {es : List (AV × AV)} {ep : Nat} {Q : Value → Loc → Led → Prop} (G : Good K n c) (hd : σ d = some (.dict es ep)) (h : ∀ v, σ v = none → Q (.ref v) m (σ.set v (isVView d))) : W c (call (.builtin "dict.values") [.ref d]) Q E m σ := fun φ s hd' hA => by
  obtain ⟨kvs, hD, _⟩ := dictX hA hd
  exact call_meetsIn PySem.F.slot_dict_values hD.dictOf.typeIs PySem.F.entry_dict_values (PySem.F.args_dict_values_1 _) (meets_dict_values (pkX c.prog c.w (formOf es)) d (ne_mods G ⟨φ, _, hA⟩ hd)) ⟨⟨kvs, hD.dictOf⟩,
    PQ.new (a := s.heap.objs.size) (tk := s.toks) (ao := isVView d) hd' hA (fun b o e => Heap.get?_push_of_some _ e) (Heap.get?_push_size _ rfl) ⟨rfl, rfl⟩ (Nat.le_refl _) (h _)⟩
theorem W_pyIter_values {v d : Addr} {es : List (AV × AV)} {ep : Nat} {Q : Value → Loc → Led → Prop} (hv : σ v = some (isVView d)) (hd : σ d = some (.dict es ep)) (h : ∀ I, σ I = none → Q (.ref I) m (σ.set I (isVIter d es.length ep 0))) : W c (pyIter (.ref v)) Q E m σ := fun φ s hd' hA => by
  obtain ⟨kvs, hD, hlen, hk⟩ := dictX hA hd
  obtain ⟨o, ho, k⟩ := hA.led v _ (Led.un_left hv)
  refine wpAny_pyIter_values ⟨o, ho, k⟩ hD ?_
  exact PQ.new (a := s.heap.objs.size) (tk := s.toks) (ao := isVIter d es.length ep 0) hd' hA (fun b o e => Heap.get?_push_of_some _ e) (Heap.get?_push_size _ rfl) ⟨rfl, by rw [hlen]; rfl⟩ (Nat.le_refl _) (h _)
end
end Mine
end
section
namespace Mine
noncomputable def Led.le (σ τ : Led) : Prop := ∀ b o, σ b = some o → τ b = some o
theorem Led.le.refl (σ : Led) : σ.le σ := fun _ _ e => e
theorem Led.le.trans {a b c : Led} (h : a.le b) (h' : b.le c) : a.le c := fun x o e => h' x o (h x o e)
theorem Led.le_set {σ : Led} {a : Addr} {o : AO} (h : σ a = none) : σ.le (σ.set a o) := Led.sub_set h
theorem Led.le.set {σ τ : Led} {a : Addr} {o : AO} (h : σ.le τ) (ha : σ a = none) : σ.le (τ.set a o) := fun b o' e => (Led.set_ne (ne_of_led e ha)).trans (h b o' e)
theorem Led.le.none {σ τ : Led} {a : Addr} (h : σ.le τ) (ha : τ a = Option.none) : σ a = Option.none := by
  cases e : σ a with
  | none => rfl
  | some o => rw [h a o e] at ha; cases ha
section
variable {K : Params → Frag} {n : Nat} {c : Cx} {E : Value → Loc → Led → Prop} {m : Loc} {σ : Led} {env : Env}
theorem W_shrink {α : Type} {t : Sem α} {Q : α → Loc → Led → Prop} {σ' : Led} (hs : σ'.le σ) (h : W c t Q E m σ') : W c t Q E m σ := fun φ s hd hA => by
  refine h φ s (fun a => ?_) (hA.sub fun a o e => ?_)
  · rcases hd a with r | r
    · left; exact hs.none r
    · exact .inr r
  · cases q : σ' a with
    | some o' => rw [Led.un_left q] at e; exact (Led.un_left (hs _ _ q)).trans e
    | none =>
      rw [Led.un_right q] at e
      rcases hd a with r | r
      · rw [Led.un_right r]; exact e
      · rw [r] at e; cases e
/-- what is behind a walk is let go -/
theorem W_keep {α : Type} {t : Sem α} {Q : α → Loc → Led → Prop} (h : W c t (fun a m' σ' => ∃ σ'', σ''.le σ' ∧ Q a m' σ'') E m σ) : W c t Q E m σ :=
  W_weaken h (fun _ _ _ x => x) fun _ _ σ' x => ⟨σ', Led.le.refl _, x⟩
/-! names -/
theorem W_lv {x : Str} {pos : Pos} {av : AV} {Q : Value → Loc → Led → Prop} (hL : env.locals = c.L) (hv : m x = some av) (h : ∀ v, er v = av → Q v m σ)
    (hk : env.scope.kind = .function := by rfl) (hl : env.kindOf x = some .local := by rfl) (hd : (x == ("__debug__" : Str)) = false := by decide) : W c (eval (.Name x pos) env) Q E m σ := W_name (W_loadLocal hL hv h hk hl) hd
theorem W_lr {x : Str} {pos : Pos} {a : Addr} {Q : Value → Loc → Led → Prop} (hL : env.locals = c.L) (hv : m x = some (.ref a)) (h : Q (.ref a) m σ)
    (hk : env.scope.kind = .function := by rfl) (hl : env.kindOf x = some .local := by rfl) (hd : (x == ("__debug__" : Str)) = false := by decide) : W c (eval (.Name x pos) env) Q E m σ := W_lv hL hv (fun v e => by rw [er_ref e]; exact h) hk hl hd
theorem W_li {x : Str} {pos : Pos} {i : Int} {Q : Value → Loc → Led → Prop} (hL : env.locals = c.L) (hv : m x = some (.int i)) (h : ∀ t, Q (.int i t) m σ)
    (hk : env.scope.kind = .function := by rfl) (hl : env.kindOf x = some .local := by rfl) (hd : (x == ("__debug__" : Str)) = false := by decide) : W c (eval (.Name x pos) env) Q E m σ := W_lv hL hv (fun v e => by obtain ⟨t, rfl⟩ := er_int e; exact h t) hk hl hd
theorem W_lb {x : Str} {pos : Pos} {b : Bool} {Q : Value → Loc → Led → Prop} (hL : env.locals = c.L) (hv : m x = some (.bool b)) (h : Q (.bool b) m σ)
    (hk : env.scope.kind = .function := by rfl) (hl : env.kindOf x = some .local := by rfl) (hd : (x == ("__debug__" : Str)) = false := by decide) : W c (eval (.Name x pos) env) Q E m σ := W_lv hL hv (fun v e => by rw [er_bool e]; exact h) hk hl hd
theorem W_cv {x : Str} {pos : Pos} {a : Addr} {av : AV} {Q : Value → Loc → Led → Prop} (hc : env.cells.lookup x = some a) (ha : σ a = some (.cell (some av))) (h : ∀ v, er v = av → Q v m σ)
    (hk : env.scope.kind = .function := by rfl) (hl : env.kindOf x = some .cell := by rfl) (hd : (x == ("__debug__" : Str)) = false := by decide) : W c (eval (.Name x pos) env) Q E m σ := W_name (W_loadCell hc ha h hk hl) hd
theorem W_cr {x : Str} {pos : Pos} {a b : Addr} {Q : Value → Loc → Led → Prop} (hc : env.cells.lookup x = some a) (ha : σ a = some (.cell (some (.ref b)))) (h : Q (.ref b) m σ)
    (hk : env.scope.kind = .function := by rfl) (hl : env.kindOf x = some .cell := by rfl) (hd : (x == ("__debug__" : Str)) = false := by decide) : W c (eval (.Name x pos) env) Q E m σ := W_cv hc ha (fun v e => by rw [er_ref e]; exact h) hk hl hd
theorem W_ci {x : Str} {pos : Pos} {a : Addr} {i : Int} {Q : Value → Loc → Led → Prop} (hc : env.cells.lookup x = some a) (ha : σ a = some (.cell (some (.int i)))) (h : ∀ t, Q (.int i t) m σ)
    (hk : env.scope.kind = .function := by rfl) (hl : env.kindOf x = some .cell := by rfl) (hd : (x == ("__debug__" : Str)) = false := by decide) : W c (eval (.Name x pos) env) Q E m σ := W_cv hc ha (fun v e => by obtain ⟨t, rfl⟩ := er_int e; exact h t) hk hl hd
/-! calls by a name -/
/-- a def of the text's, its name looked up among the globals -/
theorem W_gcall {x : Str} {p pos : Pos} {f : Addr} {e : Expr} {rest : List Expr} {Q : Value → Loc → Led → Prop} (G : Good K n c) (hg : nsIn (K c.w.params) mainGlobals x = some (some (.ref f))) (hk : keepIn (K c.w.params) (.ref f) = true)
    (h : W c (spliced (backTo pos (starEach (e :: rest) env))) (fun vs m σ => W c (call (.ref f) vs) Q E m σ) E m σ)
    (hx : env.kindOf x = some .globalImplicit := by rfl) (hkf : env.scope.kind = .function := by rfl) (hgl : env.globals = mainGlobals := by rfl) (hd : (x == ("__debug__" : Str)) = false := by decide)
    (hst : starEach (e :: rest) env = (false, eval e env) :: starEach rest env := by rfl) (hplain : (backTo pos (starEach rest env)).any (·.1) = false := by rfl)
    (hev : eval (.Call (.Name x p) (e :: rest) [] pos) env = (do callWith pos (← eval (.Name x p) env) [] (backTo pos (starEach (e :: rest) env)) (backToKw pos (keywordEach [] env))) := by rfl) : W c (eval (.Call (.Name x p) (e :: rest) [] pos) env) Q E m σ :=
  W_Call (W_name (W_loadGlobal (W_global G hg (W_callWithK G.X hk h hst hplain) hgl) hkf hx) hd) hev
theorem W_gcall0 {x : Str} {p pos : Pos} {f : Addr} {Q : Value → Loc → Led → Prop} (G : Good K n c) (hg : nsIn (K c.w.params) mainGlobals x = some (some (.ref f))) (hk : keepIn (K c.w.params) (.ref f) = true)
    (h : W c (call (.ref f) []) Q E m σ)
    (hx : env.kindOf x = some .globalImplicit := by rfl) (hkf : env.scope.kind = .function := by rfl) (hgl : env.globals = mainGlobals := by rfl) (hd : (x == ("__debug__" : Str)) = false := by decide)
    (hev : eval (.Call (.Name x p) [] [] pos) env = (do callWith pos (← eval (.Name x p) env) [] (backTo pos (starEach [] env)) (backToKw pos (keywordEach [] env))) := by rfl) : W c (eval (.Call (.Name x p) [] [] pos) env) Q E m σ :=
  W_Call (W_name (W_loadGlobal (W_global G hg (W_callWithK0 G.X hk h) hgl) hkf hx) hd) hev
/-- a built-in, its name looked up -/
theorem W_bcall {x : Str} {p pos : Pos} {f : Value} {e : Expr} {rest : List Expr} {Q : Value → Loc → Led → Prop} (G : Good K n c) (hg : nsIn (K c.w.params) mainGlobals x = some none) (hv : bootBuiltins x = some f)
    (h : W c (spliced (backTo pos (starEach (e :: rest) env))) (fun vs m σ => W c (call f vs) Q E m σ) E m σ) (hf : ∀ a, f ≠ .ref a := by intro a h; cases h) (hn : x ≠ "__name__" := by decide)
    (hx : env.kindOf x = some .globalImplicit := by rfl) (hkf : env.scope.kind = .function := by rfl) (hgl : env.globals = mainGlobals := by rfl) (hbl : env.builtins = builtinsNs := by rfl) (hd : (x == ("__debug__" : Str)) = false := by decide)
    (hst : starEach (e :: rest) env = (false, eval e env) :: starEach rest env := by rfl) (hplain : (backTo pos (starEach rest env)).any (·.1) = false := by rfl)
    (hev : eval (.Call (.Name x p) (e :: rest) [] pos) env = (do callWith pos (← eval (.Name x p) env) [] (backTo pos (starEach (e :: rest) env)) (backToKw pos (keywordEach [] env))) := by rfl) : W c (eval (.Call (.Name x p) (e :: rest) [] pos) env) Q E m σ :=
  W_Call (W_name (W_loadGlobal (W_builtinName G hg hv hn (W_callWithB hf h hst hplain) hgl hbl) hkf hx) hd) hev
/-- one argument -/
theorem W_arg1 {pos : Pos} {e : Expr} {Q : List Value → Loc → Led → Prop} (h : W c (eval e env) (fun v => Q [v]) E m σ) (he : starEach [e] env = (false, eval e env) :: starEach [] env := by rfl) : W c (spliced (backTo pos (starEach [e] env))) Q E m σ :=
  W_items_cons (W_mono_ne h fun _ _ _ q => W_items_nil q) he
theorem W_arg2 {pos : Pos} {e e' : Expr} {Q : List Value → Loc → Led → Prop} (h : W c (eval e env) (fun v m σ => W c (eval e' env) (fun v' => Q [v, v']) E m σ) E m σ) (he : starEach [e, e'] env = (false, eval e env) :: starEach [e'] env := by rfl)
    (he' : starEach [e'] env = (false, eval e' env) :: starEach [] env := by rfl) : W c (spliced (backTo pos (starEach [e, e'] env))) Q E m σ :=
  W_items_cons (W_mono_ne h fun _ _ _ q => W_arg1 q he') he
theorem W_arg3 {pos : Pos} {e e' e'' : Expr} {Q : List Value → Loc → Led → Prop} (h : W c (eval e env) (fun v m σ => W c (eval e' env) (fun v' m σ => W c (eval e'' env) (fun v'' => Q [v, v', v'']) E m σ) E m σ) E m σ)
    (he : starEach [e, e', e''] env = (false, eval e env) :: starEach [e', e''] env := by rfl) (he1 : starEach [e', e''] env = (false, eval e' env) :: starEach [e''] env := by rfl)
    (he2 : starEach [e''] env = (false, eval e'' env) :: starEach [] env := by rfl) : W c (spliced (backTo pos (starEach [e, e', e''] env))) Q E m σ :=
  W_items_cons (W_mono_ne h fun _ _ _ q => W_arg2 q he1 he2) he
/-! tests -/
theorem W_isTrue_or {x : Expr} {rest : List Expr} {pos : Pos} {whole : Sem Value} {Q : Bool → Loc → Led → Prop} (h : W c (isTrue x env (eval x env)) (fun b m σ => if b then Q true m σ else W c (isTrue (.BoolOp .Or rest pos) env whole) Q E m σ) E m σ) :
    W c (isTrue (.BoolOp .Or (x :: rest) pos) env whole) Q E m σ := fun φ s hd hA => isTrue_or (wpAny_mono (h φ s hd hA) (fun b s' z => by
      obtain ⟨h', tk', m', σ', rfl, hd', hA', hq⟩ := z
      cases b with
      | false => exact wpAny_mono (hq φ _ hd' hA') (fun _ _ q => q.re) fun _ _ q => q.re
      | true => exact ⟨h', tk', m', σ', rfl, hd', hA', hq⟩) fun _ _ x => x)
theorem W_isTrue_or0 {pos : Pos} {whole : Sem Value} {Q : Bool → Loc → Led → Prop} (h : Q false m σ) : W c (isTrue (.BoolOp .Or [] pos) env whole) Q E m σ := fun _ s hd hA => isTrue_or_nil ⟨s.heap, s.toks, m, σ, rfl, hd, hA, h⟩
/-! ranges -/
noncomputable def isRange (a b st : Int) : AO := .like fun o => ∃ t u v, o = { cls := .type "range", data := .fields #[.int a t, .int b u, .int st v] }
noncomputable def isRIter (a st : Int) (k : Nat) (i : Nat) : AO := .exact { cls := .type "range_iterator", data := .fields #[rawInt (a + st * i), rawInt ((k : Int) - i), rawInt st] }
noncomputable def rangeL (a st : Int) (k : Nat) : List AV := (List.range k).map fun (i : Nat) => AV.int (a + st * i)
theorem rangeL_len (a st : Int) (k : Nat) : (rangeL a st k).length = k := by simp [rangeL]
theorem rangeL_get {a st : Int} {k i : Nat} {x : AV} (h : (rangeL a st k)[i]? = some x) : i < k ∧ x = .int (a + st * i) := by
  unfold rangeL at h
  rw [List.getElem?_map] at h
  by_cases q : i < k
  · rw [List.getElem?_range q] at h; exact ⟨q, (Option.some.inj h).symm⟩
  · rw [List.getElem?_eq_none (by simpa using Nat.le_of_not_lt q)] at h; cases h
theorem IterS.range (hh : c.A.handled = none) (I : Addr) (a st : Int) (k : Nat) : IterS c I (rangeL a st k) (fun _ => True) (isRIter a st k) where
  item := fun {i x m τ Q E} _ hI hx h φ s hd hA => by
    obtain ⟨o, ho, ok⟩ := hA.led I _ (Led.un_left Led.set_self)
    obtain ⟨hi, rfl⟩ := rangeL_get hx
    have ok' : o = _ := ok
    subst ok'
    refine wpAny_pyNext_range_item ho (by omega) fun h' hit hs => ?_
    have e : isRIter a st k (i + 1) = .exact { cls := .type "range_iterator", data := .fields #[rawInt (a + st * i + st), rawInt ((k : Int) - i - 1), rawInt st] } := by
      unfold isRIter
      rw [show a + st * (i + 1 : Nat) = a + st * i + st by rw [Int.natCast_add, Int.mul_add]; omega, show (k : Int) - (i + 1 : Nat) = (k : Int) - i - 1 by omega]
    have z := PQ.upd (tk := s.toks + 1) (x := some (Value.int (a + st * i) s.toks)) (ao := isRIter a st k (i + 1)) (Q := Q) hd hA Led.set_self hs hit (by rw [e]; rfl) (by rw [Led.set_set]; exact h _ rfl)
    exact z
  done := fun {m τ Q E} _ hI h φ s hd hA => by
    obtain ⟨o, ho, ok⟩ := hA.led I _ (Led.un_left Led.set_self)
    have ok' : o = _ := ok
    subst ok'
    exact wpAny_pyNext_range_end hh ho (by rw [rangeL_len]; omega) fun h' hs => PQ.gone hI hd hA hs h
  self := fun {m τ Q E} _ hI h φ s hd hA => by
    obtain ⟨o, ho, ok⟩ := hA.led I _ (Led.un_left Led.set_self)
    have ok' : o = _ := ok
    subst ok'
    exact wpAny_pyIter_rangeiter ho (PQ.here hd hA h)
theorem W_range1 {k : Int} {t : Tok} {Q : Value → Loc → Led → Prop} (h : ∀ r, σ r = none → Q (.ref r) m (σ.set r (isRange 0 k 1))) : W c (call (.type "range") [.int k t]) Q E m σ := fun φ s hd hA =>
  call_range_1 (PQ.new (ao := isRange 0 k 1) hd hA (fun b o e => Heap.get?_push_of_some _ e) (Heap.get?_push_size _ rfl) ⟨_, _, _, rfl⟩ (Nat.le_refl _) (h _))
theorem W_range3 {a b st : Int} {t u v : Tok} {Q : Value → Loc → Led → Prop} (hc : st ≠ 0) (hp : Builtin.divisionGoesByPylong (b - a) st = false) (h : ∀ r, σ r = none → Q (.ref r) m (σ.set r (isRange a b st))) : W c (call (.type "range") [.int a t, .int b u, .int st v]) Q E m σ := fun φ s hd hA =>
  call_range_3 hc (PQ.new (ao := isRange a b st) (tk := s.toks) hd hA (fun b o e => Heap.get?_push_of_some _ e) (Heap.get?_push_size _ rfl) ⟨_, _, _, rfl⟩ (Nat.le_refl _) (h _)) (.inl hp)
theorem W_pyIter_range {r : Addr} {a b st : Int} {k : Nat} {Q : Value → Loc → Led → Prop} (hr : σ r = some (isRange a b st)) (hs : Builtin.Range.small a b st = true) (hk : Builtin.Range.rangeSize a b st = k) (h : ∀ I, σ I = none → Q (.ref I) m (σ.set I (isRIter a st k 0))) : W c (pyIter (.ref r)) Q E m σ := fun φ s hd hA => by
  obtain ⟨o, ho, t, u, v, rfl⟩ := hA.led r _ (Led.un_left hr)
  refine wpAny_pyIter_range ho hs (PQ.new (ao := isRIter a st k 0) (tk := s.toks) hd hA (fun b o e => Heap.get?_push_of_some _ e) (Heap.get?_push_size _ rfl) ?_ (Nat.le_refl _) (h _))
  show _ = _
  rw [hk]; simp
end
end Mine
end
section
namespace Mine
theorem Led.le.set2 {σ τ : Led} {a : Addr} {o : AO} (h : σ.le τ) : (σ.set a o).le (τ.set a o) := fun b o' e => by
  by_cases q : b = a
  · subst q; rw [Led.set_self] at e ⊢; exact e
  · rw [Led.set_ne q] at e ⊢; exact h b o' e
theorem RDs.push {σ : Led} {d : PyData} {x : AV} (hx : RD σ d x) : ∀ {ds : List PyData} {xs : List AV}, RDs σ ds xs → RDs σ (ds ++ [d]) (xs ++ [x])
  | [], xs, h => by
    have : xs = [] := h
    subst this
    exact ⟨x, [], rfl, hx, rfl⟩
  | d' :: ds, xs, h => by
    obtain ⟨y, r, rfl, h1, h2⟩ := h
    exact ⟨y, r ++ [x], rfl, h1, RDs.push hx h2⟩
theorem RDs.length {σ : Led} : ∀ {ds : List PyData} {xs : List AV}, RDs σ ds xs → xs.length = ds.length
  | [], xs, h => by have : xs = [] := h; subst this; rfl
  | d :: ds, xs, h => by
    obtain ⟨y, r, rfl, h1, h2⟩ := h
    simp [RDs.length h2]
theorem RDs.get {σ : Led} : ∀ {ds : List PyData} {xs : List AV}, RDs σ ds xs → ∀ {i : Nat} {d : PyData}, ds[i]? = some d → ∃ x, xs[i]? = some x ∧ RD σ d x
  | [], xs, h, i, d, hd => by simp at hd
  | d' :: ds, xs, h, i, d, hd => by
    obtain ⟨y, r, rfl, h1, h2⟩ := h
    cases i with
    | zero => simp at hd; subst hd; exact ⟨y, rfl, h1⟩
    | succ i => simp at hd; exact RDs.get h2 hd
section
variable {K : Params → Frag} {n : Nat} {c : Cx} {E : Value → Loc → Led → Prop} {m : Loc} {σ : Led} {env : Env}
theorem W_For_range {target iter : Expr} {body : List Stmt} {pos : Pos} {Q : Flow → Loc → Led → Prop} (ok : Okay c) (hh : c.A.handled = none) (hf : env.frame = some c.f)
    (h : W c (eval iter env) (fun v m σ => ∃ r a b st k τ, ∃ Inv : Nat → Loc → Led → Prop, v = .ref r ∧ σ r = some (isRange a b st) ∧ Builtin.Range.small a b st = true ∧ Builtin.Range.rangeSize a b st = ((k : Nat) : Int) ∧ Led.le τ σ ∧ Inv 0 m τ ∧
      (∀ i t m τ, i < k → Inv i m τ → W c (assign target env (.int (a + st * (i : Nat)) t)) (fun _ m τ => W c (execs body env) (ForPost Q (Inv (i + 1))) E m τ) E m τ) ∧ (∀ m τ, Inv k m τ → Q .next m τ)) E m σ)
    (hs : ∀ x, foldedSetIterable iter env x = pure x := by intro _; rfl) (ht : ∀ it v, letOwnedTupleGo target it v = pure () := by intro _ _; rfl) : W c (exec (.For target iter body [] pos) env) Q E m σ :=
  W_For ok hf (W_mono_ne h fun v m σ x => by
    obtain ⟨r, a, b, st, k, τ, Inv, rfl, hr, hsm, hk, hle, h0, turn, fin⟩ := x
    refine W_keep (W_pyIter_range hr hsm hk fun I hI => ⟨τ.set I (isRIter a st k 0), hle.set2, ?_⟩)
    refine ⟨I, rangeL a st k, _, _, τ, Inv, rfl, (IterS.range hh I a st k).toIter, rfl, hle.none hI, fun _ _ _ _ => trivial, h0, fun i x v m τ hx hv hi => ?_, fun m τ hi => fin m τ (by rw [rangeL_len] at hi; exact hi)⟩
    obtain ⟨hlt, rfl⟩ := rangeL_get hx
    obtain ⟨t, rfl⟩ := er_int hv
    exact turn i t m τ hlt hi) hs ht
variable {elt target : Expr} {ifs : List Expr} {scope : Scope} {cl : List (Str × Addr)} {F : Addr → Led → Prop} {β : Type}
theorem CompGoal.pure {I : Addr} {stable : Led → Prop} {mk : Nat → AO} {τ : Led} (bs : List β) (val : β → AV) (p : β → Bool) (f : β → AV) (IT : ∀ C, IterS (c.comp m C) I (bs.map val) stable mk) (hI : τ I = none) (hst : stable τ) (hz : bs.length ≤ 1000000)
    (turn : ∀ C b v m', b ∈ bs → er v = val b → W (c.comp m C) (assign target (compEnvC scope cl C env) v) (fun _ m' τ' => W (c.comp m C) (testsOf ifs (compEnvC scope cl C env)) (fun ok m' τ' => ok = p b ∧
      if ok = true then W (c.comp m C) (eval elt (compEnvC scope cl C env)) (fun y _ τ' => er y = f b ∧ Led.le τ τ') NoE m' τ' else Led.le τ τ') NoE m' τ') NoE m' τ)
    (fin : ∀ a, τ a = none → F a (τ.set a (.list ((bs.filter p).map f)))) : CompGoal c m env scope cl target elt ifs F (.ref I) (τ.set I (mk 0)) := by
  refine ⟨I, bs.map val, stable, mk, τ, fun i ys τ' => τ' = τ ∧ ys = ((bs.take i).filter p).map f, rfl, IT, rfl, hI, fun i ys τ' x => ?_, ⟨rfl, rfl⟩, fun C i x v m' ys τ' hx hv hi => ?_, fun ys τ' a hi ha => ?_⟩
  · obtain ⟨rfl, rfl⟩ := x
    refine ⟨hst, ?_⟩
    rw [List.length_map]
    refine Nat.le_trans (List.length_filter_le ..) ?_
    rw [List.length_take]; omega
  · obtain ⟨rfl, rfl⟩ := hi
    obtain ⟨b, hb, rfl⟩ : ∃ b, bs[i]? = some b ∧ val b = x := by
      rw [List.getElem?_map] at hx
      cases e : bs[i]? with
      | none => rw [e] at hx; cases hx
      | some b => rw [e] at hx; exact ⟨b, rfl, by simpa using hx⟩
    have hm : b ∈ bs := List.mem_of_getElem? hb
    have step : (bs.take (i + 1)).filter p = (bs.take i).filter p ++ if p b = true then [b] else [] := by
      rw [List.take_add_one, hb, List.filter_append]; simp [List.filter_cons]
    refine W_mono_ne (turn C b v m' hm hv) fun _ m₁ τ₁ W1 => W_keep (W_mono_ne W1 fun ok m₂ τ₂ W2 => ?_)
    obtain ⟨hok, W2⟩ := W2
    cases ok with
    | true =>
      simp only [if_true] at W2 ⊢
      refine ⟨τ₂, Led.le.refl _, W_keep (W_mono_ne W2 fun y m₃ τ₃ x => ⟨τ', x.2, rfl, ?_⟩)⟩
      rw [step, ← hok, if_pos rfl, List.map_append, x.1]; rfl
    | false =>
      simp only [Bool.false_eq_true, if_false] at W2 ⊢
      refine ⟨τ', W2, rfl, ?_⟩
      rw [step, ← hok]; simp
  · obtain ⟨rfl, rfl⟩ := hi
    rw [List.length_map, List.take_length]
    exact fin a ha
theorem CompGoal.data {I : Addr} {stable : Led → Prop} {mk : Nat → AO} {τ : Led} (bs : List β) (val : β → AV) (p : β → Bool) (g : β → PyData) (IT : ∀ C, IterS (c.comp m C) I (bs.map val) stable mk) (hI : τ I = none) (hst : ∀ τ', Led.le τ τ' → stable τ') (hz : bs.length ≤ 1000000)
    (turn : ∀ C b v m' τ₁, b ∈ bs → er v = val b → Led.le τ τ₁ → W (c.comp m C) (assign target (compEnvC scope cl C env) v) (fun _ m' τ' => W (c.comp m C) (testsOf ifs (compEnvC scope cl C env)) (fun ok m' τ' => ok = p b ∧
      if ok = true then W (c.comp m C) (eval elt (compEnvC scope cl C env)) (fun y _ τ' => RD τ' (g b) (er y) ∧ Led.le τ₁ τ') NoE m' τ' else Led.le τ₁ τ') NoE m' τ') NoE m' τ₁)
    (fin : ∀ ys τ' a, Led.le τ τ' → RDs τ' ((bs.filter p).map g) ys → τ' a = none → F a (τ'.set a (.list ys))) : CompGoal c m env scope cl target elt ifs F (.ref I) (τ.set I (mk 0)) := by
  refine ⟨I, bs.map val, stable, mk, τ, fun i ys τ' => Led.le τ τ' ∧ RDs τ' (((bs.take i).filter p).map g) ys, rfl, IT, rfl, hI, fun i ys τ' x => ?_, ⟨Led.le.refl _, rfl⟩, fun C i x v m' ys τ' hx hv hi => ?_, fun ys τ' a hi ha => ?_⟩
  · refine ⟨hst _ x.1, ?_⟩
    rw [x.2.length, List.length_map]
    refine Nat.le_trans (List.length_filter_le ..) ?_
    rw [List.length_take]; omega
  · obtain ⟨hle, hr⟩ := hi
    obtain ⟨b, hb, rfl⟩ : ∃ b, bs[i]? = some b ∧ val b = x := by
      rw [List.getElem?_map] at hx
      cases e : bs[i]? with
      | none => rw [e] at hx; cases hx
      | some b => rw [e] at hx; exact ⟨b, rfl, by simpa using hx⟩
    have hm : b ∈ bs := List.mem_of_getElem? hb
    have step : (bs.take (i + 1)).filter p = (bs.take i).filter p ++ if p b = true then [b] else [] := by
      rw [List.take_add_one, hb, List.filter_append]; simp [List.filter_cons]
    refine W_mono_ne (turn C b v m' τ' hm hv hle) fun _ m₁ τ₁ W1 => (W_mono_ne W1 fun ok m₂ τ₂ W2 => ?_)
    obtain ⟨hok, W2⟩ := W2
    cases ok with
    | true =>
      simp only [if_true] at W2 ⊢
      refine W_mono_ne W2 fun y m₃ τ₃ x => ⟨hle.trans x.2, ?_⟩
      rw [step, ← hok, if_pos rfl, List.map_append]
      exact RDs.push x.1 (hr.mono x.2)
    | false =>
      simp only [Bool.false_eq_true, if_false] at W2 ⊢
      refine ⟨hle.trans W2, ?_⟩
      rw [step, ← hok]; simp only [Bool.false_eq_true, if_false, List.append_nil]; exact hr.mono W2
  · rw [List.length_map, List.take_length] at hi
    exact fin ys τ' a hi.1 hi.2 ha
/-- [.. for x in l ..] over a list of the ledger's, nothing lasting made -/
theorem W_itL {F : Loc → Addr → Led → Prop} {l : Addr} (bs : List β) (val : β → AV) (p : β → Bool) (f : β → AV) (hh : c.A.handled = none) (hl : σ l = some (.list (bs.map val))) (hz : bs.length ≤ 1000000)
    (turn : ∀ C b v m', b ∈ bs → er v = val b → W (c.comp m C) (assign target (compEnvC scope cl C env) v) (fun _ m' τ' => W (c.comp m C) (testsOf ifs (compEnvC scope cl C env)) (fun ok m' τ' => ok = p b ∧
      if ok = true then W (c.comp m C) (eval elt (compEnvC scope cl C env)) (fun y _ τ' => er y = f b ∧ Led.le σ τ') NoE m' τ' else Led.le σ τ') NoE m' τ') NoE m' σ)
    (fin : ∀ a, σ a = none → F m a (σ.set a (.list ((bs.filter p).map f)))) : W c (pyIter (.ref l)) (fun it m σ => CompGoal c m env scope cl target elt ifs (F m) it σ) E m σ :=
  W_pyIter_list hl fun I hI => CompGoal.pure bs val p f (fun C => IterS.list (c := c.comp m C) hh I l _) hI hl hz turn fin
theorem W_itLd {F : Loc → Addr → Led → Prop} {l : Addr} (bs : List β) (val : β → AV) (p : β → Bool) (g : β → PyData) (hh : c.A.handled = none) (hl : σ l = some (.list (bs.map val))) (hz : bs.length ≤ 1000000)
    (turn : ∀ C b v m' τ₁, b ∈ bs → er v = val b → Led.le σ τ₁ → W (c.comp m C) (assign target (compEnvC scope cl C env) v) (fun _ m' τ' => W (c.comp m C) (testsOf ifs (compEnvC scope cl C env)) (fun ok m' τ' => ok = p b ∧
      if ok = true then W (c.comp m C) (eval elt (compEnvC scope cl C env)) (fun y _ τ' => RD τ' (g b) (er y) ∧ Led.le τ₁ τ') NoE m' τ' else Led.le τ₁ τ') NoE m' τ') NoE m' τ₁)
    (fin : ∀ ys τ' a, Led.le σ τ' → RDs τ' ((bs.filter p).map g) ys → τ' a = none → F m a (τ'.set a (.list ys))) : W c (pyIter (.ref l)) (fun it m σ => CompGoal c m env scope cl target elt ifs (F m) it σ) E m σ :=
  W_pyIter_list hl fun I hI => CompGoal.data bs val p g (fun C => IterS.list (c := c.comp m C) hh I l _) hI (fun τ' h => h _ _ hl) hz turn fin
/-- the same over a range -/
theorem W_itR {F : Loc → Addr → Led → Prop} {r : Addr} {a b st : Int} {k : Nat} {τ : Led} (p : Nat → Bool) (f : Nat → AV) (hh : c.A.handled = none) (hr : σ r = some (isRange a b st)) (hs : Builtin.Range.small a b st = true) (hk : Builtin.Range.rangeSize a b st = k) (hz : k ≤ 1000000) (hle : Led.le τ σ)
    (turn : ∀ C i t m', i < k → W (c.comp m C) (assign target (compEnvC scope cl C env) (.int (a + st * (i : Nat)) t)) (fun _ m' τ' => W (c.comp m C) (testsOf ifs (compEnvC scope cl C env)) (fun ok m' τ' => ok = p i ∧
      if ok = true then W (c.comp m C) (eval elt (compEnvC scope cl C env)) (fun y _ τ' => er y = f i ∧ Led.le τ τ') NoE m' τ' else Led.le τ τ') NoE m' τ') NoE m' τ)
    (fin : ∀ a, τ a = none → F m a (τ.set a (.list (((List.range k).filter p).map f)))) : W c (pyIter (.ref r)) (fun it m σ => CompGoal c m env scope cl target elt ifs (F m) it σ) E m σ :=
  W_keep (W_pyIter_range hr hs hk fun I hI => ⟨τ.set I (isRIter a st k 0), hle.set2, CompGoal.pure (List.range k) (fun (i : Nat) => AV.int (a + st * i)) p f (fun C => IterS.range (c := c.comp m C) hh I a st k) (hle.none hI) trivial (by simpa using hz)
    (fun C i v m' hi hv => by obtain ⟨t, rfl⟩ := er_int hv; exact turn C i t m' (List.mem_range.mp hi)) fin⟩)
end
end Mine
end
section
set_option maxRecDepth 100000
namespace Mine
/-! dict() and dict.fromkeys(list) -/
theorem typeCall_dict_0 : checkTypeCall "dict" ⟨[], []⟩ = pure () := by kernel_rfl
theorem newCall_dict_0 : checkBuiltinCall "dict.__new__" ⟨[.type "dict"], []⟩ = pure () := by kernel_rfl
theorem args_dict_init_1' (a : Value) : argsOk "dict.__init__" ⟨[a], []⟩ := by
  first | exact PySem.F.args_dict_init_1 a | (unfold argsOk; kernel_rfl)
section
variable {prog : Program} {w : World} {A : Around} {E : Value → Shared → Prop} {s : Shared}
theorem code_dict_new {Q₁ : Value → Shared → Prop} (h : Q₁ (.ref s.heap.objs.size) { s with heap := s.heap.push { cls := .type "dict", data := .dict #[] } }) :
    codeAny (model prog w) A (.call (.builtin "dict.__new__") ⟨[.type "dict"], []⟩) (wants Q₁ E) s := by
  refine codeAny_call_builtin PySem.F.kt_plain_dict_new PySem.F.kt_entry_dict_new (wpAny_of_eq newCall_dict_0 ?_)
  have hsub := PySem.F.kt_sub_dict
  have hmro := PySem.F.kt_mro_dict
  obtain ⟨hp, g, d, tk, os⟩ := s
  unfold Builtin.«dict.__new__»
  wp_walk
  exact h
theorem call_dict_0 {Q : Value → Shared → Prop} (h : Q (.ref s.heap.objs.size) { s with heap := s.heap.push { cls := .type "dict", data := .dict #[] } }) :
    wpAny (model prog w) A (call (.type "dict") []) Q E s := by
  refine callType_codes (Q₁ := fun obj s₁ => obj = .ref s.heap.objs.size ∧ s₁ = { s with heap := s.heap.push { cls := .type "dict", data := .dict #[] } }) PySem.F.kt_called_dict typeCall_dict_0 PySem.F.entry_dict_init (code_dict_new ⟨rfl, rfl⟩) ?_
  rintro obj s₁ ⟨rfl, rfl⟩
  have hT : ({ s with heap := s.heap.push { cls := .type "dict", data := .dict #[] } } : Shared).TypeIs (.ref s.heap.objs.size) "dict" := ⟨_, Heap.get?_push_size _ rfl, rfl⟩
  refine ⟨hT, args_dict_init_1' _, ?_⟩
  unfold Builtin.«dict.__init__»
  refine wpAny_bind ?_
  unfold Builtin.Dict.selfAndRest
  refine wpAny_bind (wpAny_notOrdered_dict hT ?_)
  show wpAny _ _ (pure (s.heap.objs.size, ([] : List Value))) _ _ _
  refine wpAny_pure ?_
  show wpAny _ _ (Builtin.Dict.addKeywords s.heap.objs.size [] >>= _) _ _ _
  exact wpAny_bind (wpAny_pure (wpAny_pure ⟨rfl, h⟩))
end
noncomputable def fkObj : Obj := { cls := .type "builtin_function_or_method", data := .fields #[.builtin "dict.fromkeys", .type "dict"] }
theorem type_fk : typeOf (.builtin "dict.fromkeys") = pure (.type "classmethod_descriptor") := by show builtinType _ = _; rw [builtinType_eq_fast]; kernel_rfl
theorem entry_fk : entryFor table "dict.fromkeys" = some Builtin.«dict.fromkeys» := entryFor_of_tree (by kernel_rfl)
theorem entry_fkl : entryFor table "dict.fromkeys.loop" = some Builtin.«dict.fromkeys.loop» := entryFor_of_tree (by kernel_rfl)
theorem plain_fk : plainId "dict.fromkeys" = true := by decide +kernel
theorem plain_fkl : plainId "dict.fromkeys.loop" = true := by decide +kernel
theorem type_dict : isType (.type "dict") = pure true := by first | rfl | kernel_rfl | (unfold isType; rw [isSubtype_type]; kernel_rfl)
theorem owner_fk : (kfb_private% "ownerAndName") "dict.fromkeys" = ("dict", "fromkeys") := by first | decide +kernel | kernel_rfl
section
variable {M : Model} {A : Around} {E : Value → Shared → Prop} {s : Shared}
theorem run_fkget {P : Fin → Shared → Prop} (h : P (.done (.ret (.ref s.heap.objs.size))) { s with heap := s.heap.push fkObj }) :
    wpAny M A (Builtin.«classmethod_descriptor.__get__» ⟨[.builtin "dict.fromkeys", .none, .type "dict"], []⟩) P E s := by
  unfold Builtin.«classmethod_descriptor.__get__»
  refine wpAny_bind (wpAny_of_eq (a := (.builtin "dict.fromkeys", none, some (.type "dict"))) (by first | rfl | kernel_rfl) ?_)
  simp only [owner_fk]
  refine wpAny_bind (wpAny_of_eq (a := .type "dict") rfl ?_)
  refine wpAny_bind (wpAny_of_eq (a := true) type_dict ?_)
  refine KFB.if_not rfl ?_
  refine wpAny_bind (wpAny_of_eq (a := true) PySem.F.kt_sub_dict ?_)
  refine KFB.if_not rfl ?_
  exact wpAny_bind (wpAny_newObj_type (wpAny_pure h))
theorem check_fk {v : Value} : checkBoundCall "dict.fromkeys" ⟨[.type "dict", v], []⟩ = pure () := by first | kernel_rfl | rfl
end
section
variable {K : Params → Frag} {n : Nat} {c : Cx} {E : Value → Loc → Led → Prop} {m : Loc} {σ : Led} {env : Env}
theorem W_getFromkeys {pl : Sem Bool} {Q : Value × List Value → Loc → Led → Prop} (G : Good K n c)
    (e : findCls (K c.w.params) (.type "dict") (.type "type") (PySem.Str.ofString "fromkeys") = some (.get (.builtin "classmethod_descriptor.__get__") (.builtin "dict.fromkeys") .none (.type "dict")))
    (h : ∀ x, σ x = none → Q (.ref x, []) m (σ.set x (.exact fkObj))) : W c (getMethod (.type "dict") (PySem.Str.ofString "fromkeys") pl) Q E m σ := fun φ s hd hA => by
  have X := G.X.keeps hA.keep
  have hstub : opaqueClassAbove (.type "dict") = pure none := by unfold opaqueClassAbove; dsimp only; rw [show Manifest.isStub "dict" = false by decide +kernel]; rfl
  have ht : typeOf (.type "dict") = pure (.type "type") := by first | rfl | kernel_rfl
  have L0 : Looks (model c.prog c.w) s.heap (typeOf (.type "dict")) (.type "type") := Looks.of_pure ht
  have hg : findIn (K c.w.params) (.type "type") "__getattribute__" = some (some (.builtin "type.__getattribute__")) := type_tga
  unfold getMethod specialOf
  refine wpAny_bind (wpAny_bind (L0.here ((looks_findIn X hg).here ?_)))
  dsimp only
  rw [if_pos canon_tga]
  refine wpAny_bind (wpAny_mono (Q := fun v => PQ c φ s Q (v, [])) (E := PE c φ s E) ?_ (fun _ _ z => wpAny_pure z) fun _ _ z => z)
  have LO : Looks (model c.prog c.w) s.heap (opaqueClassAbove (.type "dict")) none := Looks.of_pure hstub
  refine cls_open X LO L0 hg (looks_hook X (r := none) (by rfl)) (by show subIn _ _ _ = _; rfl) e ?_
  show wpAny _ _ (holding [.builtin "dict.fromkeys"] (call (.builtin "classmethod_descriptor.__get__") [.builtin "dict.fromkeys", .none, .type "dict"]) >>= fun v => ret v) _ _ _
  refine wpAny_bind (wpAny_holding (wpAny_call_entry KFB.slot_get type_fk KFB.entry_get (run_fkget ⟨_, rfl, wpAny_pure (wpAny_pure ?_)⟩) (KFB.args_get _ _ _)))
  exact PQ.new (tk := s.toks + 1) (ao := .exact fkObj) hd hA (fun b o e => Heap.get?_push_of_some _ e) (Heap.get?_push_size _ rfl) rfl (Nat.le_refl _) fun ha => h _ ha
theorem keep_fk {x : Addr} (σ φ : Led) (m : Loc) (h : Heap) (hq : σ x = some (.exact fkObj)) (hA : At c.w c.B ((c.L, m) :: c.fs) h (σ.un φ)) :
    ∃ k, (k = Keeper.frame ∨ k = Keeper.machine ∨ k = Keeper.boundFrame) ∧ Looks (model c.prog c.w) h (keeperOf (.ref x)) k := by
  obtain ⟨o, ho, hok⟩ := hA.led x _ (Led.un_left hq)
  have : o = fkObj := hok
  subst this
  refine ⟨.machine, .inr (.inl rfl), fun A Q E s hs q => ?_⟩
  unfold keeperOf
  refine wpAny_bind (wpAny_load (hs _ _ ho) ?_)
  simp only [fkObj, show (Value.type "builtin_function_or_method" != Value.type "method") = true by decide, show (Value.type "builtin_function_or_method" == Value.type "builtin_function_or_method" || Value.type "builtin_function_or_method" == Value.type "method-wrapper") = true by decide, if_true]
  exact wpAny_pure q
/-- the call of the bound method goes on as the built-in -/
theorem W_callFk {x : Addr} {v : Value} {Q : Value → Loc → Led → Prop} (hx : σ x = some (.exact fkObj)) (h : WC c (.builtin "dict.fromkeys" ⟨[.type "dict", v], []⟩) Q E m σ) : W c (call (.ref x) [v]) Q E m σ := fun φ s hd hA => by
  obtain ⟨o, ho, hok⟩ := hA.led x _ (Led.un_left hx)
  have : o = fkObj := hok
  subst this
  refine wpAny_call (codeAny_of_tree ?_)
  show wpAny _ c.A.in1 (callAny (.ref x) ⟨[v], []⟩) _ _ s
  simp only [callAny]
  refine wpAny_bind (wpAny_load ho ?_)
  simp only [fkObj, show (Value.type "builtin_function_or_method" == Value.type "method" || Value.type "builtin_function_or_method" == Value.type "builtin_function_or_method" || Value.type "builtin_function_or_method" == Value.type "method-wrapper") = true by decide, if_true]
  refine KFB.if_so (by decide) ?_
  refine wpAny_bind (wpAny_of_eq (a := ()) check_fk ?_)
  refine wpAny_bind (wpAny_pure (wpAny_pure ?_))
  exact ⟨plainId_quiet plain_fk _, h φ s hd hA⟩
end
end Mine
end
section
set_option maxRecDepth 100000
namespace Mine
section
variable {K : Params → Frag} {n : Nat} {c : Cx} {E : Value → Loc → Led → Prop} {m : Loc} {σ : Led} {env : Env} {d : Addr} {es : List (AV × AV)} {ep : Nat} {k : PKey} {key : Value}
theorem W_dictSet {v : Value} {Q : Unit → Loc → Led → Prop} (hd : σ d = some (.dict es ep)) (hk : (er key).key = some k) (hz : es.length ≤ sizeLine) (h : ∀ ep', Q () m (σ.set d (.dict (dput es k (er key) (er v)) ep'))) : W c (dictSet d key v) Q E m σ := fun φ s hd' hA => by
  obtain ⟨o, ho, hx, ds, hdat, hr, hn⟩ := hA.led d _ (Led.un_left hd)
  have hkey : (pk c.prog c.w).is k key = true := decide_eq_true hk
  unfold dictSet
  try with_reducible refine wpAny_holding ?_
  refine wpAny_bind ((pk c.prog c.w).pyHash hkey ?_)
  unfold dictSetHashed
  try with_reducible refine wpAny_holding ?_
  refine wpAny_bind (wpAny_dictFind_of (s := { s with toks := s.toks + 1 }) hkey ho hdat (rel_keys hr) ?_)
  rw [List.findIdx?_toArray, rel_idx hr]
  have hnd : ((dput es k (er key) (er v)).map (·.1.key)).Nodup := dput_nodup hk hn
  have hdef : dput es k (er key) (er v) = match kidx es k with | some i => es.modify i fun e => (e.1, er v) | none => es ++ [(er key, er v)] := rfl
  cases hi : kidx es k with
  | some i =>
    rw [hi] at hdef
    refine wpAny_bind (wpAny_rule (wpAny_bind (wpAny_updateDict (s := { s with toks := s.toks + 1 }) ho hdat (wpAny_point (PQ.upd (ao := .dict (dput es k (er key) (er v)) ep) hd' hA hd (Heap.SameBut.update ..) (Heap.get?_update_self _ ho (Obj.isFreed_of_dict (Obj.data_mapDict hdat _)))
      ⟨hx.mapDict _, ds.modify i fun e => { e with val := v }, ?_, by rw [hdef]; exact rel_modify i hr, hnd⟩ (h ep))))))
    rw [Obj.data_mapDict hdat]; simp
  | none =>
    rw [hi] at hdef
    refine wpAny_bind (wpAny_rule (wpAny_updateDictKeys (hz := ?_) (s := { s with toks := s.toks + 1 }) ho hdat (PQ.upd (ao := .dict (dput es k (er key) (er v)) (ep + 1)) hd' hA hd (Heap.SameBut.update ..) (Heap.get?_update_self _ ho (Obj.isFreed_of_dict (Obj.data_mapDictKeys hdat _)))
      ⟨hx.mapDictKeys _, ds ++ [⟨(pk c.prog c.w).hash k, key, v⟩], ?_, by rw [hdef]; exact rel_push ⟨rfl, rfl, k, hk, rfl⟩ hr, hnd⟩ (h (ep + 1)))))
    · rw [Obj.data_mapDictKeys hdat]; simp
    · rw [List.size_toArray, rel_len hr]; exact hz
theorem W_typeDict {Q : Value → Loc → Led → Prop} (hd : σ d = some (.dict es ep)) (h : Q (.type "dict") m σ) : W c (typeOf (.ref d)) Q E m σ := fun φ s hd' hA => by
  obtain ⟨o, ho, hx, _⟩ := hA.led d _ (Led.un_left hd)
  exact wpAny_typeOf ⟨o, ho, hx.1⟩ ⟨s.heap, s.toks, m, σ, rfl, hd', hA, h⟩
theorem W_typeList {l : Addr} {xs : List AV} {Q : Value → Loc → Led → Prop} (hl : σ l = some (.list xs)) (h : Q (.type "list") m σ) : W c (typeOf (.ref l)) Q E m σ := fun φ s hd' hA => by
  obtain ⟨vs, n, ho, _⟩ := list_led hA hl
  exact wpAny_typeOf ⟨_, ho, rfl⟩ ⟨s.heap, s.toks, m, σ, rfl, hd', hA, h⟩
theorem W_newDictCall {Q : Value → Loc → Led → Prop} (h : ∀ a, σ a = none → Q (.ref a) m (σ.set a (.dict [] 0))) : W c (call (.type "dict") []) Q E m σ := fun φ s hd hA =>
  call_dict_0 (PQ.new (ao := .dict [] 0) (a := s.heap.objs.size) (tk := s.toks) hd hA (fun b o e => Heap.get?_push_of_some _ e) (Heap.get?_push_size _ rfl) ⟨⟨rfl, rfl, rfl⟩, [], rfl, trivial, List.nodup_nil⟩ (Nat.le_refl _) (h _))
/-- a built-in's code, entered -/
theorem WC_builtin {id : String} {args : Args} {b : Builtin} {Q : Value → Loc → Led → Prop} (hb : entryFor table id = some b) (hp : plainId id = true)
    (h : W c.in1 (b args) (fun fin m σ => match fin with | .done (.ret v) => Q v m σ | .again c' => c'.quiet = true ∧ WC c c' Q E m σ | _ => False) E m σ) : WC c (.builtin id args) Q E m σ := fun φ s hd hA => by
  refine codeAny_builtin hb ?_
  rw [Around.under_plainId hp]
  refine wpAny_mono (h φ s hd hA) (fun fin s' x => ?_) fun e s' x => ?_
  · obtain ⟨h', tk, m', σ', rfl, hd', hA', q⟩ := x
    cases fin with
    | done f =>
      cases f with
      | ret v => exact ⟨h', tk, m', σ', rfl, hd', hA', q⟩
      | _ => exact q.elim
    | again c' =>
      refine ⟨q.1, codeAny_mono (q.2 φ _ hd' hA') fun r s'' y => ?_⟩
      cases r with
      | ok f =>
        cases f with
        | ret v => exact PQ.re y
        | _ => exact y.elim
      | error e => exact PE.re y
  · exact x
theorem W_rule {x : String} {Q : Unit → Loc → Led → Prop} (h : Q () m σ) : W c (rule x) Q E m σ := fun _ s hd hA => wpAny_rule ⟨s.heap, s.toks, m, σ, rfl, hd, hA, h⟩
noncomputable def fkStep (es : List (AV × AV)) (q : PKey × AV) : List (AV × AV) := dput es q.1 q.2 .none
theorem WC_fkLoop {I : Addr} {τ : Led} {l : List (PKey × AV)} {stable : Led → Prop} {mk : Nat → AO} {Q : Value → Loc → Led → Prop} (IT : Iter c.in1 I (l.map (·.2)) stable mk) (hst : ∀ es ep, stable (τ.set d (.dict es ep))) (hdI : d ≠ I) (hI : τ I = none)
    (hk : ∀ q ∈ l, q.2.key = some q.1) (hz : l.length ≤ 100000) : ∀ (j i : Nat) (es : List (AV × AV)) (ep : Nat), l.length - i = j → i ≤ l.length → es.length ≤ i → (∀ ep', Q (.ref d) m (τ.set d (.dict ((l.drop i).foldl fkStep es) ep'))) →
      WC c (.builtin "dict.fromkeys.loop" ⟨[.ref d, .ref I, .none], []⟩) Q E m ((τ.set d (.dict es ep)).set I (mk i)) := by
  intro j
  induction j with
  | zero =>
    intro i es ep hj hi hes h
    have hil : i = l.length := by omega
    subst hil
    refine WC_builtin entry_fkl plain_fkl ?_
    show W c.in1 (pyNext (.ref I) >>= _) _ E m _
    have hI' : (τ.set d (.dict es ep)) I = none := (Led.set_ne (Ne.symm hdI)).trans hI
    rw [show mk l.length = mk (l.map (·.2)).length by rw [List.length_map]]
    refine W_bind (IT.done (hst _ _) hI' ?_)
    dsimp only
    refine W_pure ?_
    have := h ep
    rw [List.drop_length] at this
    exact this
  | succ j ih =>
    intro i es ep hj hi hes h
    have hlt : i < l.length := by omega
    have hI' : ∀ es ep, (τ.set d (.dict es ep)) I = none := fun es ep => (Led.set_ne (Ne.symm hdI)).trans hI
    refine WC_builtin entry_fkl plain_fkl ?_
    show W c.in1 (pyNext (.ref I) >>= _) _ E m _
    refine W_bind (IT.item (x := l[i].2) (hst _ _) (hI' _ _) (by simp [hlt]) fun v hv => ?_)
    dsimp only
    have hd1 : ((τ.set d (.dict es ep)).set I (mk (i + 1))) d = some (.dict es ep) := (Led.set_ne hdI).trans Led.set_self
    refine W_bind (W_typeDict hd1 ?_)
    rw [if_pos (by decide)]
    refine W_bind (W_pure (a := d) ?_)
    refine W_bind ?_
    have hkq : (er v).key = some l[i].1 := by rw [hv]; exact hk _ (List.getElem_mem hlt)
    refine W_holding (W_dictSet hd1 hkq (Nat.le_trans hes (Nat.le_trans hi (Nat.le_trans hz (by decide)))) fun ep' => ?_)
    refine W_pure ⟨plainId_quiet plain_fkl _, ?_⟩
    rw [Led.set_comm (Ne.symm hdI), Led.set_set]
    have hes' : (dput es l[i].1 (er v) .none).length ≤ i + 1 := Nat.le_trans (dput_len _ _ _ _) (by omega)
    refine ih (i + 1) (dput es l[i].1 (er v) .none) ep' (by omega) hlt hes' fun ep'' => ?_
    have := h ep''
    rw [List.drop_eq_getElem_cons hlt, List.foldl_cons] at this
    unfold fkStep at this ⊢
    rw [hv]; exact this
theorem WC_fk {p : Addr} {l : List (PKey × AV)} {Q : Value → Loc → Led → Prop} (hh : c.A.handled = none) (hp : σ p = some (.list (l.map (·.2)))) (hk : ∀ q ∈ l, q.2.key = some q.1) (hz : l.length ≤ 100000)
    (h : ∀ a ep, σ a = none → Q (.ref a) m (σ.set a (.dict (l.foldl fkStep []) ep))) : WC c (.builtin "dict.fromkeys" ⟨[.type "dict", .ref p], []⟩) Q E m σ := by
  refine WC_builtin entry_fk plain_fk ?_
  show W c.in1 (isType (.type "dict") >>= _) _ E m σ
  rw [type_dict]
  refine W_bind (W_pure ?_)
  show W c.in1 (isSubtype (.type "dict") (.type "dict") >>= _) _ E m σ
  rw [PySem.F.kt_sub_dict]
  refine W_bind (W_pure ?_)
  show W c.in1 (rule "dict.fromkeys.default-none" >>= _) _ E m σ
  refine W_bind (W_rule ?_)
  refine W_bind (W_pure (a := (Value.ref p, Value.none)) ?_)
  show W c.in1 (call (.type "dict") [] >>= _) _ E m σ
  refine W_bind (W_newDictCall fun d hd => ?_)
  have hpd : p ≠ d := ne_of_led hp hd
  have hp' : (σ.set d (.dict [] 0)) p = some (.list (l.map (·.2))) := (Led.set_ne hpd).trans hp
  refine W_holding ?_
  refine W_bind (W_typeList hp' ?_)
  refine W_bind (W_typeDict Led.set_self ?_)
  rw [if_neg (by decide)]
  refine W_bind (W_typeDict Led.set_self ?_)
  rw [if_neg (by decide)]
  refine W_bind (W_pyIter_list hp' fun I hI => ?_)
  refine W_pure ⟨plainId_quiet plain_fkl _, ?_⟩
  have hdI : d ≠ I := fun e => by rw [← e, Led.set_self] at hI; cases hI
  have hI' : σ I = none := by rw [Led.set_ne (Ne.symm hdI)] at hI; exact hI
  refine WC_fkLoop (τ := σ) (Iter.list (c := c.in1) hh I p _) (fun es ep => (Led.set_ne hpd).trans hp) hdI hI' hk hz _ 0 [] 0 rfl (Nat.zero_le _) (Nat.le_refl _) fun ep' => h d ep' hd
end
end Mine
end
section
namespace Mine
/-! [y for x in A for y in B], B an expression of x -/
noncomputable abbrev two (elt t1 i1 t2 i2 : Expr) (scope : Scope) (pos : Pos) : Expr := .ListComp elt [⟨t1, i1, [], 0⟩, ⟨t2, i2, [], 0⟩] scope pos
theorem compTurn_two0 (elt t1 i1 t2 i2 : Expr) (scope : Scope) (pos : Pos) (it acc : Value) (env : Env) :
    compTurn (two elt t1 i1 t2 i2 scope pos) 0 it acc env = (standAt i1.pos >>= fun _ => pyNext it >>= fun r => match r with
      | none => pure (.done .next)
      | some v => letOwnedTupleGo t1 it v >>= fun _ => assign t1 env v >>= fun _ =>
        eval i2 env >>= fun x => standAt i2.pos >>= fun _ => foldedSetIterable i2 env x >>= fun x => holding [x] (pyIter x) >>= fun j => runOwn (.compStart (two elt t1 i1 t2 i2 scope pos) 1 j acc env) env >>= fun _ =>
          again (.compLoop (two elt t1 i1 t2 i2 scope pos) 0 it acc env)) := by rfl
theorem compTurn_two1 (elt t1 i1 t2 i2 : Expr) (scope : Scope) (pos : Pos) (it acc : Value) (env : Env) :
    compTurn (two elt t1 i1 t2 i2 scope pos) 1 it acc env = (standAt i2.pos >>= fun _ => pyNext it >>= fun r => match r with
      | none => pure (.done .next)
      | some v => letOwnedTupleGo t2 it v >>= fun _ => assign t2 env v >>= fun _ =>
        (eval elt env >>= fun x => call (.builtin "list.append") [acc, x] >>= fun _ => pure ()) >>= fun _ =>
          again (.compLoop (two elt t1 i1 t2 i2 scope pos) 1 it acc env)) := by rfl
section
variable {prog : Program} {w : World} {A : Around} {R : Result → Shared → Prop} {s : Shared} {elt t1 i1 t2 i2 : Expr} {scope : Scope} {pos : Pos} {it acc : Value} {env : Env}
theorem compStart_two1 
    (h0 : codeAny (model prog w) A (.compLoop (two elt t1 i1 t2 i2 scope pos) 1 it acc env) R s)
    (h : wpAny (model prog w) A (pyIter it) (fun it' s' => codeAny (model prog w) A (.compLoop (two elt t1 i1 t2 i2 scope pos) 1 it' acc env) R s')
      (notedBy (model prog w) A env fun x s' => R (.error x) s') s) :
    codeAny (model prog w) A (.compStart (two elt t1 i1 t2 i2 scope pos) 1 it acc env) R s := by
  refine codeAny_of_tree ?_
  show wpAny _ _ ((compStart (two elt t1 i1 t2 i2 scope pos) 1 it acc env).onRaise (fun x => do noteFrame x env; standAt theWindowsPlace)) _ _ s
  refine wpAny_notedAt ?_
  unfold compStart
  show wpAny _ _ (ask >>= _) _ _ s
  refine wpAny_bind (wpAny_askSetting (wpAny_ite ?_))
  split
  · first
      | exact wpAny_bind (wpAny_pure (wpAny_pure (And.intro rfl h0)))
      | exact wpAny_pure (And.intro rfl h0)
  · first
      | exact wpAny_bind (wpAny_rule (wpAny_bind (wpAny_standAt (wpAny_bind (wpAny_mono h (fun it' s' h' => wpAny_pure (And.intro rfl h')) fun _ _ x => x)))))
      | (refine wpAny_bind (wpAny_rule ?_); show wpAny _ _ (standAt i2.pos >>= _) _ _ s; exact wpAny_bind (wpAny_standAt (wpAny_bind (wpAny_mono h (fun it' s' h' => wpAny_pure (And.intro rfl h')) fun _ _ x => x))))
theorem compLoop_two1 (I : Nat → Shared → Prop)
    (turn : ∀ n s, I n s → wpAny (model prog w) A (pyNext it) (fun r s₁ => match r with
      | none => R (.ok .next) s₁
      | some v => wpAny (model prog w) A (assign t2 env v) (fun _ s₂ => wpAny (model prog w) A (eval elt env) (fun x s₃ =>
          wpAny (model prog w) A (call (.builtin "list.append") [acc, x]) (fun _ s₄ => ∃ m, m < n ∧ I m s₄) (fun _ _ => False) s₃) (fun _ _ => False) s₂) (fun _ _ => False) s₁) (fun _ _ => False) s)
    (n : Nat) (h : I n s) (ht : ∀ v, letOwnedTupleGo t2 it v = pure ()) :
    codeAny (model prog w) A (.compLoop (two elt t1 i1 t2 i2 scope pos) 1 it acc env) R s := by
  refine codeAny_loop rfl I (fun n s hI => ?_) n h
  show wpAny _ A ((compTurn (two elt t1 i1 t2 i2 scope pos) 1 it acc env).onRaise (fun x => do noteFrame x env; theTreesLotGoes x)) _ _ s
  refine wpAny_noted ?_
  rw [compTurn_two1]
  refine wpAny_bind (wpAny_standAt (wpAny_bind (wpAny_mono (turn n s hI) (fun r s₁ h₁ => ?_) fun _ _ h' => h'.elim)))
  cases r with
  | none => exact wpAny_pure h₁
  | some v =>
    refine wpAny_bind (wpAny_of_eq (ht v) ?_)
    exact wpAny_bind (wpAny_mono h₁ (fun _ s₂ h₂ => wpAny_bind (wpAny_bind (wpAny_mono h₂ (fun x s₃ h₃ => wpAny_bind (wpAny_mono h₃
      (fun _ s₄ h₄ => wpAny_pure (wpAny_pure ⟨rfl, h₄⟩)) fun _ _ h' => h'.elim)) fun _ _ h' => h'.elim))) fun _ _ h' => h'.elim)
theorem compLoop_two0 (I : Nat → Shared → Prop)
    (turn : ∀ n s, I n s → wpAny (model prog w) A (pyNext it) (fun r s₁ => match r with
      | none => R (.ok .next) s₁
      | some v => wpAny (model prog w) A (assign t1 env v) (fun _ s₂ => wpAny (model prog w) A (eval i2 env) (fun x s₃ => wpAny (model prog w) A (pyIter x) (fun j s₄ =>
          codeAny (model prog w) A (.compStart (two elt t1 i1 t2 i2 scope pos) 1 j acc env) (fun r s₅ => r = .ok .next ∧ ∃ m, m < n ∧ I m s₅) s₄) (fun _ _ => False) s₃) (fun _ _ => False) s₂) (fun _ _ => False) s₁) (fun _ _ => False) s)
    (n : Nat) (h : I n s) (ht : ∀ v, letOwnedTupleGo t1 it v = pure ()) (hs : ∀ x, foldedSetIterable i2 env x = pure x) :
    codeAny (model prog w) A (.compLoop (two elt t1 i1 t2 i2 scope pos) 0 it acc env) R s := by
  refine codeAny_loop rfl I (fun n s hI => ?_) n h
  show wpAny _ A ((compTurn (two elt t1 i1 t2 i2 scope pos) 0 it acc env).onRaise (fun x => do noteFrame x env; theTreesLotGoes x)) _ _ s
  refine wpAny_noted ?_
  rw [compTurn_two0]
  refine wpAny_bind (wpAny_standAt (wpAny_bind (wpAny_mono (turn n s hI) (fun r s₁ h₁ => ?_) fun _ _ h' => h'.elim)))
  cases r with
  | none => exact wpAny_pure h₁
  | some v =>
    refine wpAny_bind (wpAny_of_eq (ht v) ?_)
    refine wpAny_bind (wpAny_mono h₁ (fun _ s₂ h₂ => wpAny_bind (wpAny_mono h₂ (fun x s₃ h₃ => wpAny_bind (wpAny_standAt (wpAny_bind (wpAny_of_eq (hs x) ?_)))) fun _ _ h' => h'.elim)) fun _ _ h' => h'.elim)
    refine wpAny_bind (wpAny_holding (wpAny_mono h₃ (fun j s₄ h₄ => wpAny_bind (wpAny_runOwn ?_)) fun _ _ h' => h'.elim))
    rw [show A.mark none = A from rfl]
    refine codeAny_mono h₄ fun r s₅ h₅ => ?_
    obtain ⟨rfl, h₅⟩ := h₅
    exact wpAny_pure ⟨rfl, h₅⟩
end
end Mine
end
section
namespace Mine
section
variable {c : Cx} {E : Value → Loc → Led → Prop} {m : Loc} {σ : Led} {env : Env}
theorem IterS.tuple (hh : c.A.handled = none) (I l : Addr) (xs : List AV) : IterS c I xs (fun τ => τ l = some (.tuple xs)) (isTIter l) where
  toIter := Iter.tuple hh I l xs
  self := fun {m τ Q E} st hI h φ s hd hA => by
    obtain ⟨o, ho, k⟩ := hA.led I _ (Led.un_left Led.set_self)
    exact wpAny_pyIter_tupleiter ⟨o, ho, k⟩ (PQ.here hd hA h)
variable {t1 i1 i2 : Expr} {y : Str} {p1 p2 : Pos} {scope : Scope} {pos : Pos}
inductive InnerSt (c : Cx) (φ : Led) (s : Shared) (τ : Led) (a J : Addr) (mk : Nat → AO) (ys zs : List AV) (n : Nat) (s' : Shared) : Prop
  | mk (h' : Heap) (tk : Nat) (m' : Loc) (i : Nat) (e : s' = { s with heap := h', toks := tk }) (d : Dis ((τ.set a (.list (ys ++ zs.take i))).set J (mk i)) φ) (x : At c.w c.B ((c.L, m') :: c.fs) h' (((τ.set a (.list (ys ++ zs.take i))).set J (mk i)).un φ)) (hi : i ≤ zs.length) (hn : n = zs.length + 1 - i) : InnerSt c φ s τ a J mk ys zs n s'
/-- the inner clause: its items behind those that are there -/
theorem two_inner {J a : Addr} {zs ys : List AV} {stable : Led → Prop} {mk : Nat → AO} {τ φ : Led} {s : Shared} (IT : IterS c J zs stable mk) (hL : env.locals = c.L) (hk : env.scope.kind = .function) (hy : env.kindOf y = some .local) (hdb : (y == ("__debug__" : Str)) = false)
    (hst : ∀ o, stable (τ.set a o)) (hJ : τ J = none) (haJ : a ≠ J) (hz : ys.length + zs.length ≤ 1000000) (hd : Dis ((τ.set a (.list ys)).set J (mk 0)) φ) (hA : At c.w c.B ((c.L, m) :: c.fs) s.heap (((τ.set a (.list ys)).set J (mk 0)).un φ)) :
    codeAny (model c.prog c.w) c.A (.compStart (two (.Name y p1) t1 i1 (.Name y p2) i2 scope pos) 1 (.ref J) (.ref a) env) (fun r s' => r = .ok .next ∧ PQ c φ s (fun _ m' σ' => σ' = τ.set a (.list (ys ++ zs))) () s') s := by
  have hJ' : ∀ o, (τ.set a o) J = none := fun o => (Led.set_ne (Ne.symm haJ)).trans hJ
  have loop : ∀ (h₁ : Heap) (tk₁ : Nat) (m₁ : Loc), At c.w c.B ((c.L, m₁) :: c.fs) h₁ (((τ.set a (.list ys)).set J (mk 0)).un φ) →
      codeAny (model c.prog c.w) c.A (.compLoop (two (.Name y p1) t1 i1 (.Name y p2) i2 scope pos) 1 (.ref J) (.ref a) env) (fun r s' => r = .ok .next ∧ PQ c φ s (fun _ m' σ' => σ' = τ.set a (.list (ys ++ zs))) () s') { s with heap := h₁, toks := tk₁ } := by
    intro h₁ tk₁ m₁ hA₁
    refine compLoop_two1 (InnerSt c φ s τ a J mk ys zs)
      ?_ (zs.length + 1) ⟨h₁, tk₁, m₁, 0, rfl, by simpa using hd, by simpa using hA₁, Nat.zero_le _, rfl⟩ (by intro v; rfl)
    rintro n s' ⟨h', tk, m', i, rfl, hd', hA', hi, rfl⟩
    by_cases hlt : i < zs.length
    · have W1 : W c (pyNext (.ref J)) (NextP zs[i] m' ((τ.set a (.list (ys ++ zs.take i))).set J (mk (i + 1)))) NoE m' ((τ.set a (.list (ys ++ zs.take i))).set J (mk i)) :=
        IT.item (hst _) (hJ' _) (by simp [hlt]) fun v hv => ⟨v, rfl, hv, rfl, rfl⟩
      refine wpAny_mono (W1 φ { s with heap := h', toks := tk } hd' hA') (fun r s₂ x => ?_) fun _ _ x => x.no
      obtain ⟨h₂, tk₂, m₂, σ₂, rfl, hd₂, hA₂, v, rfl, hv, rfl, rfl⟩ := x
      have W2 : W c (assign (.Name y p2) env v) (fun _ m₃ σ₃ => m₃ y = some (er v) ∧ σ₃ = (τ.set a (.list (ys ++ zs.take i))).set J (mk (i + 1))) NoE m₂ ((τ.set a (.list (ys ++ zs.take i))).set J (mk (i + 1))) :=
        W_assignName (W_storeLocal hL ⟨by unfold Loc.set; simp, rfl⟩ hk hy)
      refine wpAny_mono (W2 φ { s with heap := h₂, toks := tk₂ } hd₂ hA₂) (fun _ s₃ x => ?_) fun _ _ x => x.no
      obtain ⟨h₃, tk₃, m₃, σ₃, rfl, hd₃, hA₃, hm₃, rfl⟩ := x
      have W3 : W c (eval (.Name y p1) env) (fun u m₄ σ₄ => er u = zs[i] ∧ σ₄ = (τ.set a (.list (ys ++ zs.take i))).set J (mk (i + 1))) NoE m₃ ((τ.set a (.list (ys ++ zs.take i))).set J (mk (i + 1))) :=
        W_lv hL hm₃ (fun u hu => ⟨hu.trans hv, rfl⟩) hk hy hdb
      refine wpAny_mono (W3 φ { s with heap := h₃, toks := tk₃ } hd₃ hA₃) (fun u s₄ x => ?_) fun _ _ x => x.no
      obtain ⟨h₄, tk₄, m₄, σ₄, rfl, hd₄, hA₄, hu, rfl⟩ := x
      have hla : ((τ.set a (.list (ys ++ zs.take i))).set J (mk (i + 1))) a = some (.list (ys ++ zs.take i)) := (Led.set_ne haJ).trans Led.set_self
      have W4 : W c (call (.builtin "list.append") [.ref a, u]) (fun _ m₅ σ₅ => σ₅ = (τ.set a (.list (ys ++ zs.take (i + 1)))).set J (mk (i + 1))) NoE m₄ ((τ.set a (.list (ys ++ zs.take i))).set J (mk (i + 1))) := by
        refine W_append hla ?_ ?_
        · rw [Led.set_comm (Ne.symm haJ), Led.set_set, hu]
          rw [show ys ++ zs.take i ++ [zs[i]] = ys ++ zs.take (i + 1) by rw [List.append_assoc, List.take_append_getElem hlt]]
        · have : sizeLine ≥ 1000000 := by decide
          simp only [List.length_append, List.length_take]; omega
      refine wpAny_mono (W4 φ { s with heap := h₄, toks := tk₄ } hd₄ hA₄) (fun _ s₅ x => ?_) fun _ _ x => x.no
      obtain ⟨h₅, tk₅, m₅, σ₅, rfl, hd₅, hA₅, rfl⟩ := x
      exact ⟨zs.length + 1 - (i + 1), by omega, h₅, tk₅, m₅, i + 1, rfl, hd₅, hA₅, hlt, rfl⟩
    · have hi' : i = zs.length := by omega
      subst hi'
      have W1 : W c (pyNext (.ref J)) (fun r m₂ σ₂ => r = none ∧ σ₂ = τ.set a (.list (ys ++ zs.take zs.length))) NoE m' ((τ.set a (.list (ys ++ zs.take zs.length))).set J (mk zs.length)) :=
        IT.done (hst _) (hJ' _) ⟨rfl, rfl⟩
      refine wpAny_mono (W1 φ { s with heap := h', toks := tk } hd' hA') (fun r s₂ x => ?_) fun _ _ x => x.no
      obtain ⟨h₂, tk₂, m₂, σ₂, rfl, hd₂, hA₂, rfl, rfl⟩ := x
      exact ⟨rfl, h₂, tk₂, m₂, _, rfl, hd₂, hA₂, by rw [List.take_length]⟩
  refine compStart_two1 (loop s.heap s.toks m hA) ?_
  have W0 : W c (pyIter (.ref J)) (fun r m₂ σ₂ => r = .ref J ∧ σ₂ = (τ.set a (.list ys)).set J (mk 0)) NoE m ((τ.set a (.list ys)).set J (mk 0)) := IT.self (hst _) (hJ' _) ⟨rfl, rfl⟩
  refine wpAny_mono (W0 φ s hd hA) (fun r s₂ x => ?_) fun _ _ x => x.no.elim
  obtain ⟨h₂, tk₂, m₂, σ₂, rfl, hd₂, hA₂, rfl, rfl⟩ := x
  exact loop h₂ tk₂ m₂ hA₂
inductive CompGoal2 (c : Cx) (m : Loc) (env : Env) (scope : Scope) (cl : List (Str × Addr)) (t1 i2 : Expr) (F : Addr → Led → Prop) (it : Value) (σ : Led) : Prop
  | mk (I : Addr) (xs : List AV) (stable : Led → Prop) (mk : Nat → AO) (τ : Led) (Inv : Nat → List AV → Led → Prop) (e : it = .ref I) (IT : ∀ C, IterS (c.comp m C) I xs stable mk) (es : σ = τ.set I (mk 0)) (hI : τ I = none)
    (hst : ∀ i ys τ, Inv i ys τ → stable τ ∧ ys.length ≤ 500000) (h0 : Inv 0 [] τ)
    (turn : ∀ C i x v m' ys τ, xs[i]? = some x → er v = x → Inv i ys τ → W (c.comp m C) (assign t1 (compEnvC scope cl C env) v) (fun _ m' τ => W (c.comp m C) (eval i2 (compEnvC scope cl C env)) (fun xv m' τ =>
      ∃ l zs, xv = .ref l ∧ (τ l = some (.list zs) ∨ τ l = some (.tuple zs)) ∧ Inv (i + 1) (ys ++ zs) τ) NoE m' τ) NoE m' τ)
    (fin : ∀ ys τ a, Inv xs.length ys τ → τ a = none → F a (τ.set a (.list ys))) : CompGoal2 c m env scope cl t1 i2 F it σ
theorem comp_block2 {cl : List (Str × Addr)} {F : Addr → Led → Prop} {φ : Led} {s : Shared} {it : Value} {E : Value → Shared → Prop} {RR : Value → Addr → Result → Shared → Prop} (hh : c.A.handled = none)
    (hcell : ∀ y ∈ scope.names, y.2 ≠ .cell) (hkind : scope.kind = .function) (ht : ∀ it v, letOwnedTupleGo t1 it v = pure ()) (hs2 : ∀ C x, foldedSetIterable i2 (compEnvC scope cl C env) x = pure x)
    (hk : ∀ C, (compEnvC scope cl C env).scope.kind = .function) (hy : ∀ C, (compEnvC scope cl C env).kindOf y = some .local) (hdb : (y == ("__debug__" : Str)) = false)
    (hd : Dis σ φ) (hA : At c.w c.B ((c.L, m) :: c.fs) s.heap (σ.un φ)) (g : CompGoal2 c m env scope cl t1 i2 F it σ)
    (hRR : ∀ a C h' tk m' σ', Dis σ' φ → At c.w c.B ((C, m') :: (c.L, m) :: c.fs) h' (σ'.un φ) → F a σ' → RR (.ref a) C (.ok .next) { s with heap := h', toks := tk }) :
    wpAny (model c.prog c.w) c.A (newList []) (fun acc s₃ => wpAny (model c.prog c.w) c.A (newFunctionEnv scope env.globals cl [] env.qual none .none (some env)) (fun cenv s₄ =>
      codeAny (model c.prog c.w) c.A (.compStart (two (.Name y p1) t1 i1 (.Name y p2) i2 scope pos) 0 it acc { cenv with scope := relabel scope env }) (RR acc cenv.locals) s₄) E s₃) E s := by
  obtain ⟨I, xs, stable, mk, τ, Inv, rfl, IT, rfl, hI, hinv, h0, turn, fin⟩ := g
  refine wpAny_newObj_type (T := "list") (wpAny_newFunctionEnv hcell (by intro y hy; simp at hy) (fun h₁ hns₁ hsb₁ => ?_) hkind)
  dsimp only at hns₁ hsb₁ ⊢
  generalize hC : (s.heap.push { cls := .type "list", dict := none, data := .seq ([] : List Value).toArray }).objs.size = C at hns₁ hsb₁ ⊢
  have ha : s.heap.objs.size < C := by rw [← hC, Heap.size_push]; exact Nat.lt_succ_self _
  generalize haa : s.heap.objs.size = a at ha ⊢
  have old : ∀ b o, s.heap.get? b = some o → h₁.get? b = some o := fun b o e => hsb₁.extBut b o (fun q => by have := Heap.lt_size e; rw [q, haa] at this; exact absurd (Nat.lt_trans ha this) (Nat.lt_irrefl _)) (Heap.get?_push_of_some _ (Heap.get?_push_of_some _ e))
  have hga : h₁.get? a = some { cls := .type "list", dict := none, data := .seq ([] : List Value).toArray } := hsb₁.extBut a _ (Nat.ne_of_lt ha) (Heap.get?_push_of_some _ (by rw [← haa]; exact Heap.get?_push_size _ rfl))
  have hA1 : At c.w c.B ((c.L, m) :: c.fs) h₁ (((τ.set I (mk 0)).set a (.list [])).un φ) := Led.un_set ▸ hA.alloc old hga ⟨[], 0, rfl, rfl⟩ (by rw [haa]; exact Nat.le_refl _)
  have hfa := Led.un_none (hA.fresh (a := a) (by rw [haa]; exact Nat.le_refl _))
  have hd1 : Dis ((τ.set I (mk 0)).set a (.list [])) φ := hd.set hfa.2
  have haI : a ≠ I := fun e => by rw [e, Led.set_self] at hfa; cases hfa.1
  have hτa : τ a = none := by have := hfa.1; rw [Led.set_ne haI] at this; exact this
  have hA2 : At c.w c.B ((C, eraseM fun x => ([] : List (Str × Value)).reverse.lookup x) :: (c.L, m) :: c.fs) h₁ (((τ.set I (mk 0)).set a (.list [])).un φ) := by
    have hsC : s.heap.objs.size ≤ C := by rw [haa]; exact Nat.le_of_lt ha
    refine ⟨hA1.keep, fun p hp => ?_, fun p hp => ?_, List.nodup_cons.mpr ⟨fun hm => ?_, hA1.nodup⟩, hA1.led, hA1.new, fun e ao q p hp => ?_⟩
    · rcases List.mem_cons.mp hp with rfl | hp
      · exact ⟨_, hns₁, fun _ => rfl⟩
      · exact hA1.frames p hp
    · rcases List.mem_cons.mp hp with rfl | hp
      · exact hA.newB hsC
      · exact hA1.above p hp
    · obtain ⟨p, hp, q⟩ := List.mem_map.mp hm
      exact hA.freshF hsC p hp q.symm
    · rcases List.mem_cons.mp hp with rfl | hp
      · intro r
        rw [Led.un_set] at q
        by_cases z : e = a
        · exact absurd (z.symm.trans r) (Nat.ne_of_lt ha)
        · rw [Led.set_ne z, r, hA.fresh hsC] at q; cases q
      · exact hA1.apart e ao q p hp
  have loop : ∀ (h₁ : Heap) (tk₁ : Nat) (m₁ : Loc), At c.w c.B ((C, m₁) :: (c.L, m) :: c.fs) h₁ (((τ.set I (mk 0)).set a (.list [])).un φ) →
      codeAny (model c.prog c.w) c.A (.compLoop (two (.Name y p1) t1 i1 (.Name y p2) i2 scope pos) 0 (.ref I) (.ref a) (compEnvC scope cl C env)) (RR (.ref a) C) { s with heap := h₁, toks := tk₁ } := by
    intro h₁ tk₁ m₁ hA2
    refine compLoop_two0 (CompSt c m φ s C I a mk Inv xs.length)
      ?_ (xs.length + 1) ⟨h₁, _, m₁, τ, [], 0, rfl, hd1, hA2, hI, hτa, h0, Nat.zero_le _, rfl⟩ (ht _) (hs2 C)
    rintro n s' ⟨h', tk, m', τ', ys, i, rfl, hd', hA', hI', ha', hinv', hi, rfl⟩
    obtain ⟨hst, hlen⟩ := hinv i ys τ' hinv'
    by_cases hlt : i < xs.length
    · have W1 : W (c.comp m C) (pyNext (.ref I)) (NextP xs[i] m' (τ'.set I (mk (i + 1)))) NoE m' (τ'.set I (mk i)) := (IT C).item hst hI' (by simp [hlt]) fun v hv => ⟨v, rfl, hv, rfl, rfl⟩
      have na : ∀ k, (τ'.set I (mk k)) a = none := fun k => (Led.set_ne haI).trans ha'
      have F1 := W_frameE (Led.one a (.list ys)) W1 (Dis.one (na i))
      rw [Led.un_one (na i)] at F1
      refine wpAny_mono (F1 φ { s with heap := h', toks := tk } hd' hA') (fun r s₁ x => ?_) fun _ _ x => x.no.elim
      obtain ⟨h₁, tk₁, m₁, σ₁, rfl, hd₁, hA₁, σ₂, rfl, _, v, rfl, hv, rfl, rfl⟩ := x
      rw [Led.un_one (na (i + 1))] at hd₁ hA₁
      have two : ∀ τ : Led, τ I = none → τ a = none → τ.un ((Led.one I (mk (i + 1))).set a (.list ys)) = (τ.set I (mk (i + 1))).set a (.list ys) := fun τ h1 h2 => by rw [Led.un_set_right h2, Led.un_one h1]
      have dis2 : ∀ τ : Led, τ I = none → τ a = none → Dis τ ((Led.one I (mk (i + 1))).set a (.list ys)) := fun τ h1 h2 b => by
        by_cases q : b = a
        · exact .inl (q ▸ h2)
        · by_cases r : b = I
          · exact .inl (r ▸ h1)
          · right; rw [Led.set_ne q]; exact if_neg r
      have back : ∀ τ : Led, Dis τ ((Led.one I (mk (i + 1))).set a (.list ys)) → τ I = none ∧ τ a = none := fun τ h => by
        refine ⟨(h I).resolve_right ?_, (h a).resolve_right ?_⟩
        · rw [Led.set_ne (Ne.symm haI)]; unfold Led.one; rw [if_pos rfl]; intro q; cases q
        · rw [Led.set_self]; intro q; cases q
      have W2 := turn C i xs[i] v m₁ ys τ' (by simp [hlt]) hv hinv'
      have F2 := W_frameE _ W2 (dis2 τ' hI' ha')
      rw [two τ' hI' ha'] at F2
      refine wpAny_mono (F2 φ { s with heap := h₁, toks := tk₁ } hd₁ hA₁) (fun _ s₂ x => ?_) fun _ _ x => x.no.elim
      obtain ⟨h₂, tk₂, m₂, σ₂, rfl, hd₂, hA₂, τ₂, rfl, hdd₂, W3⟩ := x
      refine wpAny_mono (W_frameE _ W3 hdd₂ φ { s with heap := h₂, toks := tk₂ } hd₂ hA₂) (fun xv s₃ x => ?_) fun _ _ x => x.no.elim
      obtain ⟨h₃, tk₃, m₃, σ₃, rfl, hd₃, hA₃, τ₃, rfl, hdd₃, l, zs, rfl, hl, hinv3⟩ := x
      obtain ⟨b1, b2⟩ := back τ₃ hdd₃
      rw [two τ₃ b1 b2] at hd₃ hA₃
      have hz3 := (hinv _ _ _ hinv3).2
      have hla : l ≠ a := fun e => by rw [e, b2] at hl; rcases hl with q | q <;> cases q
      have hlI : l ≠ I := fun e => by rw [e, b1] at hl; rcases hl with q | q <;> cases q
      have hl3 : (((τ₃.set I (mk (i + 1))).set a (.list ys)) l = some (.list zs)) ∨ (((τ₃.set I (mk (i + 1))).set a (.list ys)) l = some (.tuple zs)) := by
        rw [Led.set_ne hla, Led.set_ne hlI]; exact hl
      -- the inner clause
      have W4 : W (c.comp m C) (pyIter (.ref l)) (fun j m₄ σ₄ => ∃ J st4 mk4, j = .ref J ∧ ((τ₃.set I (mk (i + 1))).set a (.list ys)) J = none ∧ IterS (c.comp m C) J zs st4 mk4 ∧ (∀ o, st4 ((τ₃.set I (mk (i + 1))).set a o)) ∧ σ₄ = ((τ₃.set I (mk (i + 1))).set a (.list ys)).set J (mk4 0)) NoE m₃ ((τ₃.set I (mk (i + 1))).set a (.list ys)) := by
        rcases hl3 with q | q
        · exact W_pyIter_list q fun J hJ => ⟨J, _, _, rfl, hJ, IterS.list (c := c.comp m C) hh J l zs, fun o => by rw [Led.set_ne hla] at q ⊢; exact q, rfl⟩
        · exact W_pyIter_tuple q fun J hJ => ⟨J, _, _, rfl, hJ, IterS.tuple (c := c.comp m C) hh J l zs, fun o => by rw [Led.set_ne hla] at q ⊢; exact q, rfl⟩
      refine wpAny_mono (W4 φ { s with heap := h₃, toks := tk₃ } hd₃ hA₃) (fun j s₄ x => ?_) fun _ _ x => x.no.elim
      obtain ⟨h₄, tk₄, m₄, σ₄, rfl, hd₄, hA₄, J, st4, mk4, rfl, hJ, IT4, hst4, rfl⟩ := x
      have haJ : a ≠ J := fun e => by rw [← e, Led.set_self] at hJ; cases hJ
      have hJ' : (τ₃.set I (mk (i + 1))) J = none := by rw [Led.set_ne (Ne.symm haJ)] at hJ; exact hJ
      have inn := two_inner (c := c.comp m C) (s := { s with heap := h₄, toks := tk₄ }) (t1 := t1) (i1 := i1) (i2 := i2) (p1 := p1) (p2 := p2) (scope := scope) (pos := pos) (y := y) (env := compEnvC scope cl C env) (τ := τ₃.set I (mk (i + 1))) IT4 rfl (hk C) (hy C) hdb hst4 hJ' haJ (by simp only [List.length_append] at hz3; omega) hd₄ hA₄
      refine codeAny_mono inn fun r s₅ x => ?_
      obtain ⟨rfl, h₅, tk₅, m₅, σ₅, rfl, hd₅, hA₅, rfl⟩ := x
      exact ⟨rfl, xs.length + 1 - (i + 1), by omega, h₅, tk₅, m₅, τ₃, ys ++ zs, i + 1, rfl, hd₅, hA₅, b1, b2, hinv3, hlt, rfl⟩
    · have hi' : i = xs.length := by omega
      subst hi'
      have W1 : W (c.comp m C) (pyNext (.ref I)) (fun r m₁ σ₁ => r = none ∧ m₁ = m' ∧ σ₁ = τ') NoE m' (τ'.set I (mk xs.length)) := (IT C).done hst hI' ⟨rfl, rfl, rfl⟩
      have na : (τ'.set I (mk xs.length)) a = none := (Led.set_ne haI).trans ha'
      have F1 := W_frameE (Led.one a (.list ys)) W1 (Dis.one na)
      rw [Led.un_one na] at F1
      refine wpAny_mono (F1 φ { s with heap := h', toks := tk } hd' hA') (fun r s₁ x => ?_) fun _ _ x => x.no.elim
      obtain ⟨h₁, tk₁, m₁, σ₁, rfl, hd₁, hA₁, σ₂, rfl, _, rfl, rfl, rfl⟩ := x
      rw [Led.un_one ha'] at hd₁ hA₁
      exact hRR a C h₁ tk₁ m₁ _ hd₁ hA₁ (fin ys _ a hinv' ha')
  refine codeAny_compStart_list (loop _ _ _ hA2) ?_
  have W0 : W (c.comp m C) (pyIter (.ref I)) (fun r m₁ σ₁ => r = .ref I ∧ m₁ = (eraseM fun x => ([] : List (Str × Value)).reverse.lookup x) ∧ σ₁ = τ.set I (mk 0)) NoE (eraseM fun x => ([] : List (Str × Value)).reverse.lookup x) (τ.set I (mk 0)) := (IT C).self (hinv 0 [] τ h0).1 hI ⟨rfl, rfl, rfl⟩
  have F0 := W_frameE (Led.one a (.list [])) W0 (Dis.one hfa.1)
  rw [Led.un_one hfa.1] at F0
  refine wpAny_mono (F0 φ { s with heap := h₁, toks := s.toks + ([] : List (Str × Value)).length } hd1 hA2) (fun it' s' x => ?_) fun _ _ x => x.no.elim
  obtain ⟨h₂, tk₂, m₂, σ₂, rfl, hd₂, hA₂, σ₃, rfl, _, rfl, rfl, rfl⟩ := x
  rw [Led.un_one hfa.1] at hA₂
  exact loop h₂ tk₂ _ hA₂
end
end Mine
end
section
namespace Mine
section
variable {K : Params → Frag} {n : Nat} {c : Cx} {E : Value → Loc → Led → Prop} {m : Loc} {σ : Led} {env : Env}
/-! a, b = .. -/
theorem W_Assign_Tuple {elts : List Expr} {k : Nat} {tpos pos : Pos} {value : Expr} {Q : Flow → Loc → Led → Prop} (h : W c (eval value env) (fun v m σ => W c (assign (.Tuple elts k tpos) env v) (fun _ => Q .next) E m σ) E m σ)
    (hs : swapsWithSole [.Tuple elts k tpos] value pos.line env = pure false := by rfl) (hw : swappedStores [.Tuple elts k tpos] value env = pure none := by rfl) : W c (exec (.Assign [.Tuple elts k tpos] value pos) env) Q E m σ :=
  fun φ s hd hA => Assign_Tuple (wpAny_mono (h φ s hd hA) (fun v s₁ x => by
    obtain ⟨h', tk', m', σ', rfl, hd', hA', hq⟩ := x
    exact wpAny_mono (hq φ _ hd' hA') (fun _ _ y => y) fun _ _ y => y.re) fun _ _ y => y) hs hw
theorem W_assignTuple {t : Addr} {xs : List AV} {elts : List Expr} {k : Nat} {tpos : Pos} {Q : Unit → Loc → Led → Prop} (hh : c.A.handled = none) (ht : σ t = some (.tuple xs))
    (h : ∀ vs, vs.map er = xs → W c (assignInOrder ((assignEach elts env).map (·.2)) vs) Q E m σ) (hn : (assignEach elts env).length = xs.length := by rfl) (hstar : (assignEach elts env).findIdx? (·.1) = none := by rfl) : W c (assign (.Tuple elts k tpos) env (.ref t)) Q E m σ := fun φ s hd hA => by
  obtain ⟨vs, n, ho, hv⟩ := tuple_led hA ht
  refine wpAny_assign_Tuple hh ⟨_, ho, rfl, n, rfl⟩ (by rw [hn, List.size_toArray, len_er hv]) hstar fun h' hx => ?_
  have hA' : At c.w c.B ((c.L, m) :: c.fs) h' (σ.un φ) := hA.offExt hx (hA.newB (Nat.le_refl _)) (hA.fresh (Nat.le_refl _)) (hA.freshF (Nat.le_refl _))
  exact wpAny_mono (h vs hv φ { s with heap := h' } hd hA') (fun _ _ y => y.re (tk := s.toks)) fun _ _ y => y.re (tk := s.toks)
theorem W_inOrder_nil {Q : Unit → Loc → Led → Prop} (h : Q () m σ) : W c (assignInOrder [] []) Q E m σ := W_pure h
theorem W_inOrder_cons {t : Value → Sem Unit} {ts : List (Value → Sem Unit)} {x : Value} {xs : List Value} {Q : Unit → Loc → Led → Prop} (h : W c (t x) (fun _ m σ => W c (assignInOrder ts xs) Q E m σ) E m σ) : W c (assignInOrder (t :: ts) (x :: xs)) Q E m σ :=
  W_bind (W_holding h)
/-! sum, index, list(d), sorted(d) -/
theorem W_sumInts {l : Addr} {ns : List Int} {Q : Value → Loc → Led → Prop} (hh : c.A.handled = none) (hl : σ l = some (.list (ns.map AV.int))) (h : ∀ t, Q (.int ns.sum t) m σ) : W c (call (.builtin "sum") [.ref l]) Q E m σ := fun φ s hd hA => by
  obtain ⟨vs, n, ho, hv⟩ := list_led hA hl
  have hi := intsAre_of hv
  obtain ⟨xs, hx⟩ := hi.allInts.items
  have hl' : s.heap.IsList l (intItems xs) := hx ▸ ⟨_, ho, rfl, n, rfl⟩
  refine sum_intListG hh hl' fun h' tk t' hk => ?_
  have e1 : ns = xs.toList.map (·.1) := by
    rw [← nums_intItems, ← hx]
    exact (show numsOf vs.toArray.toList = ns from hi.numsOf).symm
  have e2 : preSum (numAt xs) xs.size = ns.sum := by
    rw [preSum_eq, List.take_of_length_le (by simp), e1]
  rw [e2]
  exact PQ.more hd hA hk (h t')
theorem W_index {l : Addr} {ys : List (PyData × AV)} {x : Value} {d : PyData} {j : Nat} {Q : Value → Loc → Led → Prop} (hu : c.A.units + 60 < cLine) (hl : σ l = some (.list (ys.map (·.2)))) (hy : Rds σ ys) (hx : RD σ d (er x)) (hc : d.canLay0 = true) (hd : d.depth ≤ 50) (hz : ys.length ≤ 1000000)
    (hj : j < ys.length) (hit : PyData.eqv (ys[j]).1 d = true) (hno : ∀ i (hi : i < ys.length), i < j → PyData.eqv (ys[i]).1 d = false) (h : ∀ t, Q (.int j t) m σ) : W c (call (.builtin "list.index") [.ref l, x]) Q E m σ := fun φ s hd' hA => by
  obtain ⟨ol, hol, vs, n, rfl, hv⟩ := hA.led l _ (Led.un_left hl)
  obtain ⟨as, ra⟩ := (hy.mono Led.un_sub).readsAll hA hv
  obtain ⟨bs, rx⟩ := (hx.mono Led.un_sub).reads hA rfl
  have hdep : PyData.depthAll (ys.map (·.1)) ≤ 50 := hy.depth
  have he := SeqAt.items_eqAt (A := c.A) (vs := vs.toArray) ra rx hy.lay hc (by omega)
  have rm := SeqAt.readsAll_map _ _ _ hy.lay ra
  have lenv : vs.length = ys.length := by have := congrArg List.length hv; simpa using this
  have at_ : ∀ i (h1 : i < vs.length) (h2 : i < ys.length), PyData.eqv (SeqAt.readOf s.heap vs[i]) d = PyData.eqv (ys[i]).1 d := fun i h1 h2 => by
    have : (vs.map (SeqAt.readOf s.heap))[i]? = (ys.map (·.1))[i]? := by rw [rm]
    rw [List.getElem?_map, List.getElem?_map, List.getElem?_eq_getElem h1, List.getElem?_eq_getElem h2] at this
    rw [Option.some.inj this]
  have hj' : j < vs.length := lenv ▸ hj
  refine call_meets PySem.F.slot_list_index ⟨_, hol, rfl⟩ PySem.F.entry_list_index (PySem.F.args_list_index_2 _ _) (SeqAt.list_indexAt l vs.toArray n none #[] x _ j (by simpa using hj') (by omega) (by show PyData.eqv (SeqAt.readOf s.heap vs[j]) d = true; rw [at_ j hj' hj]; exact hit)
      (fun i hi hij => ?_)) ⟨hol, he, PQ.here hd' hA (h _)⟩
  have h1 : i < vs.length := by simpa using hi
  have h2 : i < ys.length := lenv ▸ h1
  show PyData.eqv (SeqAt.readOf s.heap vs[i]) d = false
  rw [at_ i h1 h2]; exact hno i h2 hij
theorem map_of_get {α β : Type} {f : α → β} : ∀ {vs : List α} {xs : List β}, vs.length = xs.length → (∀ (j : Nat) (v : α), vs[j]? = some v → xs[j]? = some (f v)) → vs.map f = xs
  | [], [], _, _ => rfl
  | [], _ :: _, h, _ => by simp at h
  | _ :: _, [], h, _ => by simp at h
  | v :: vs, x :: xs, h, g => by
    have h0 := g 0 v rfl
    have : x = f v := by simpa using h0
    subst this
    rw [List.map_cons, map_of_get (by simpa using h) fun j u hu => by have := g (j + 1) u (by simpa using hu); simpa using this]
theorem keys_get {d : Addr} {es : List (AV × AV)} {kvs : List (PKey × Value)} {prog : Program} {w : World} (hlen : kvs.length = es.length) (hk : ∀ (i : Nat) (e : AV × AV), es[i]? = some e → ∃ k v, kvs[i]? = some (k, v) ∧ e.1.key = some k ∧ er v = e.2 ∧ formOf es k = e.1)
    {vs : List Value} (hl : vs.length = kvs.length) (hv : ∀ (j : Nat) (v : Value), vs[j]? = some v → ∃ (k : PKey) (x : Value), kvs[j]? = some (k, x) ∧ (pkX prog w (formOf es)).is k v = true) : vs.map er = es.map (·.1) := by
  refine map_of_get (by rw [List.length_map, hl, hlen]) fun j v e => ?_
  obtain ⟨k, x, h1, h2⟩ := hv j v e
  have hj : j < es.length := by rw [← hlen, ← hl]; exact (List.getElem?_eq_some_iff.mp e).1
  obtain ⟨k', v', g1, g2, g3, g4⟩ := hk j es[j] (List.getElem?_eq_getElem hj)
  rw [h1] at g1
  cases g1
  have h3 := (of_decide_eq_true h2).1
  rw [List.getElem?_map, List.getElem?_eq_getElem hj, Option.map_some, h3, g4]
theorem W_listDict {d : Addr} {es : List (AV × AV)} {ep : Nat} {Q : Value → Loc → Led → Prop} (G : Good K n c) (hh : c.A.handled = none) (hd : σ d = some (.dict es ep)) (hz : es.length ≤ sizeLine) (h : ∀ a, σ a = none → Q (.ref a) m (σ.set a (.list (es.map (·.1))))) : W c (call (.type "list") [.ref d]) Q E m σ := fun φ s hd' hA => by
  obtain ⟨kvs, hD, hlen, hk⟩ := dictX hA hd
  refine kdl_call (kdl_dict (knd := pkX c.prog c.w (formOf es)) (kvs := kvs) (ep := ep) (ne_mods G ⟨φ, _, hA⟩ hd)) hh hD (by rw [hlen]; exact hz) fun h' tk acc' c' hkp hD' hacc => ?_
  refine PQ.new (ao := .list (es.map (·.1))) hd' hA hkp hD' ⟨acc'.toList, c', by simp, ?_⟩ (Nat.le_refl _) (h _)
  exact keys_get (d := d) (prog := c.prog) (w := c.w) hlen hk (by rw [Array.length_toList]; exact hacc.1) fun j v e => hacc.2 j v (by rw [← Array.getElem?_toList]; exact e)
theorem W_collectTuple {l : Addr} {xs : List AV} {Q : List Value → Loc → Led → Prop} (hl : σ l = some (.list xs) ∨ σ l = some (.tuple xs)) (hz : xs.length ≤ sizeLine) (h : ∀ vs, vs.map er = xs → Q vs m σ) : W c (collect (.ref l)) Q E m σ := fun φ s hd hA => by
  rcases hl with hl | hl
  · obtain ⟨vs, k, ho, hv⟩ := list_led hA hl
    refine wpAny_collect_seq l (.inl rfl) ho rfl rfl ?_ (by rw [List.size_toArray, len_er hv]; exact hz)
    exact fun h' hk => PQ.more (tk := s.toks) hd hA hk (h _ (by simpa using hv))
  · obtain ⟨vs, k, ho, hv⟩ := tuple_led hA hl
    refine wpAny_collect_seq l (.inr rfl) ho rfl rfl ?_ (by rw [List.size_toArray, len_er hv]; exact hz)
    exact fun h' hk => PQ.more (tk := s.toks) hd hA hk (h _ (by simpa using hv))
/-- sorted of what gives ints -/
theorem W_sortedAny {x : Value} {P : List Int → Prop} {Q : Value → Loc → Led → Prop} (hc : W c.in1 (collect x) (fun vs m' σ' => m' = m ∧ σ' = σ ∧ ∃ ns, P ns ∧ ns.length < 64 ∧ vs.map er = ns.map AV.int) NoE m σ)
    (h : ∀ a (ns ns' : List Int), P ns → σ a = none → ns'.Perm ns → ns'.Pairwise (· ≤ ·) → Q (.ref a) m (σ.set a (.list (ns'.map AV.int)))) : W c (call (.builtin "sorted") [x]) Q E m σ := fun φ s hd' hA => by
  refine Calls.call_function_entry kind_sorted plain_sorted entry_sorted (args_sorted1 _) ?_
  unfold Builtin.«sorted»
  refine wpAny_bind (m := checkCount "sorted" 1 1 _) (wpAny_pure ?_)
  refine wpAny_bind (wpAny_mono (hc φ s hd' hA) (fun vs s₁ y => ?_) fun _ _ y => (PE.no (c := c.in1) y).elim)
  obtain ⟨h', tk, m', σ', rfl, hd₁, hA₁, rfl, rfl, ns, hP, hz, hv⟩ := y
  have hI : IntsAre vs ns := intsAre_of hv
  have hal : vs.length = ns.length := by have := congrArg List.length hv; simpa using this
  have h1000 : 1000 ≤ sizeLine := by decide
  refine wpAny_bind (wpAny_newList ?_ (by omega))
  have hoL : (h'.push (seqObj "list" vs.toArray 0)).get? h'.objs.size = some (seqObj "list" vs.toArray 0) := Heap.get?_push_size _ rfl
  refine wpAny_bind (wpAny_holding (wpAny_call_entry slot_list_sort ⟨_, hoL, rfl⟩ entry_list_sort (list_sort_tree (s := { s with heap := h'.push (seqObj "list" vs.toArray 0), toks := tk }) hoL hI (by omega) fun out ns' a1 a2 a3 => ⟨_, rfl, ?_⟩) (args_list_sort _)))
  refine wpAny_pure ⟨_, rfl, ?_⟩
  obtain ⟨e, he⟩ := sortedHeap_at (out := out) hoL
  refine PQ.re (h := h') (tk := tk) (PQ.new (s := { s with heap := h', toks := tk }) (tk := tk) (ao := .list (ns'.map AV.int)) hd₁ hA₁ (fun b o q => ?_) he ⟨out.toList, e, rfl, er_intsAre a1⟩ (Nat.le_refl _) fun ha => h _ ns ns' hP ha a2 a3)
  have hlt : b < h'.objs.size := Heap.lt_size q
  rw [sortedHeap_old (Nat.ne_of_lt hlt) (by rw [size_push']; exact Nat.lt_succ_of_lt hlt)]
  exact Heap.get?_push_of_some _ q
theorem W_sortedOf {x : Value} {ns : List Int} {Q : Value → Loc → Led → Prop} (hc : W c.in1 (collect x) (fun vs m' σ' => m' = m ∧ σ' = σ ∧ vs.map er = ns.map AV.int) NoE m σ) (hz : ns.length < 64)
    (h : ∀ a (ns' : List Int), σ a = none → ns'.Perm ns → ns'.Pairwise (· ≤ ·) → Q (.ref a) m (σ.set a (.list (ns'.map AV.int)))) : W c (call (.builtin "sorted") [x]) Q E m σ :=
  W_sortedAny (P := (· = ns)) (W_mono_ne hc fun vs m' σ' q => ⟨q.1, q.2.1, ns, rfl, hz, q.2.2⟩) fun a ns₁ ns' e => e ▸ h a ns'
theorem W_isNotBool {a b : Bool} {Q : Value → Loc → Led → Prop} (h : Q (.bool (a != b)) m σ) : W c (compareOp .IsNot (.bool a) (.bool b)) Q E m σ := W_val (fun _ _ _ _ q => wpAny_isNot_plain rfl q) (by
  have e : (!(Value.bool a == Value.bool b)) = (a != b) := by cases a <;> cases b <;> decide
  rw [e]; exact h)
end
end Mine
end
section
namespace Mine
section
variable {K : Params → Frag} {n : Nat} {c : Cx} {E : Value → Loc → Led → Prop} {m : Loc} {σ : Led} {env : Env}
theorem PE.newOf {φ : Led} {s : Shared} {h' : Heap} {e : Addr} {cls : Value} {vs : List Value} {tk : Nat} (hd : Dis σ φ) (hA : At c.w c.B ((c.L, m) :: c.fs) s.heap (σ.un φ)) (hn : Heap.MadeExcOf s.heap h' e cls vs) (h : E cls m σ) : PE c φ s E (.ref e) { s with heap := h', toks := tk } := by
  obtain ⟨t, ho, _, _⟩ := hn.there
  have hA' := hA.keeps hn.keeps
  have nl : σ.un φ e = none := by
    cases q : σ.un φ e with
    | none => rfl
    | some ao => obtain ⟨o, ho', _⟩ := hA.led e ao q; rw [hn.new] at ho'; cases ho'
  have nf : ∀ p ∈ (c.L, m) :: c.fs, e ≠ p.1 := fun p hp q => by
    obtain ⟨m', ⟨o, _, _, ho', _⟩, _⟩ := hA.frames p hp
    rw [← q, hn.new] at ho'; cases ho'
  refine ⟨h', tk, m, σ, cls, rfl, hd, hA', ⟨e, _, _, rfl, ho, rfl, rfl, nl, ?_, nf, .inl rfl, rfl⟩, h⟩
  cases q : c.B.get? e with
  | none => rfl
  | some o => have := hA.keep _ _ q; rw [hn.new] at this; cases this
/-- raise X(..), X a class of the text's own -/
theorem W_RaiseOwn {x : Str} {C : Addr} {bm : List Value} {B newId initId : String} {np cpos pos : Pos} {e₀ : Expr} {rest : List Expr} {Q : Flow → Loc → Led → Prop} (G : Good K n c) (ex : nsIn (K c.w.params) mainGlobals x = some (some (.ref C))) (q : excIn (K c.w.params) C bm newId = true)
    (FB : ExcBaseFacts B newId initId bm) (hh : c.A.handled = none) (h : W c (spliced (backTo cpos (starEach (e₀ :: rest) env))) (fun vs m σ => vs.length ≤ sizeLine ∧ E (.ref C) m σ) E m σ)
    (he : starEach (e₀ :: rest) env = (false, eval e₀ env) :: starEach rest env := by rfl) (hplain : (backTo cpos (starEach rest env)).any (·.1) = false := by rfl)
    (hk : env.scope.kind = .function := by rfl) (hx : env.kindOf x = some .globalImplicit := by rfl) (hg : env.globals = mainGlobals := by rfl) (hdb : (x == ("__debug__" : Str)) = false := by decide) :
    W c (exec (.Raise (some (.Call (.Name x np) (e₀ :: rest) [] cpos)) none pos) env) Q E m σ := fun φ s hd hA => by
  obtain ⟨p, loose, mg, mb, T⟩ := G.T
  have O := own_of_in G.X T ex q
  obtain ⟨tl, N, nm, qn, bs, hdct, sn, sub, ab, col, dd, k0, k1, k2, k3, k5, mN, hC, hN, hni, TL⟩ := O.obj
  have ev : W c (eval (.Name x np) env) (fun f m' σ' => f = .ref C ∧ m' = m ∧ σ' = σ) E m σ := W_name (W_loadGlobal (W_global G ex ⟨rfl, rfl, rfl⟩ hg) hk hx) hdb
  refine wpAny_Raise_call_subT (C := C) (nm := nm) (q := qn) (N := N) (bs := bs) (bm := tl) (hdct := hdct) (sn := sn) (sub := sub) (ab := ab) (col := col) (dd := dd) (k0 := k0) (k1 := k1) (k2 := k2) (k3 := k3) (k5 := k5)
    FB (mN := mN) (TL.hasType FB.hasBase) hh (by rw [he]; show (false || (backTo cpos (starEach rest env)).any (·.1)) = false; rw [hplain]; rfl) hni (wpAny_mono (ev φ s hd hA) (fun f s₁ y => ?_) fun _ _ y => y)
  obtain ⟨h₁, tk₁, m₁, σ₁, rfl, hd₁, hA₁, rfl, rfl, rfl⟩ := y
  refine ⟨rfl, ?_⟩
  rw [he] at h ⊢
  refine Calls.evalArgs_plain (wpAny_mono (h φ _ hd₁ hA₁) (fun vs s₂ y => ?_) fun _ _ y => y.re)
  obtain ⟨h₂, tk₂, m₂, σ₂, rfl, hd₂, hA₂, hl, hE⟩ := y
  refine ⟨rfl, hl, hA₂.keep _ _ hC, hN.keeps hA₂.keep, TL.keeps hA₂.keep, fun h' e hm => ?_⟩
  exact (PE.newOf (c := c) (s := { s with heap := h₂, toks := tk₂ }) (tk := tk₂) hd₂ hA₂ hm hE).re
theorem meets_own {x : Str} {C : Addr} {bm : List Value} {newId : String} (G : Good K n c) (ex : nsIn (K c.w.params) mainGlobals x = some (some (.ref C))) (q : excIn (K c.w.params) C bm newId = true) (hb : bm.contains (.type "BaseException") = true) : Meets1 c (.ref C) (.ref C) := by
  obtain ⟨p, loose, mg, mb, T⟩ := G.T
  have O := own_of_in G.X T ex q
  obtain ⟨tl, N, nm, qn, bs, hdct, sn, sub, ab, col, dd, k0, k1, k2, k3, k5, mN, hC, hN, hni, TL⟩ := O.obj
  intro A e o s Q E hs ho hc hd hq
  obtain ⟨hp, g, d, t, os⟩ := s
  exact wpAny_excMatches_sub_self (hs _ _ hC) ho hc (TL.hasType hb) hq
end
end Mine
end
section
namespace Mine
/-! inside an except clause -/
noncomputable def excO (cls : Value) (T : Addr) : AO := .like fun o => o.cls = cls ∧ ∃ vs, o.data = .fields vs ∧ vs[1]? = some (.ref T) ∧ vs[2]? = some .none
noncomputable def traO : AO := .like fun o => ∃ ts, o.data = .fields ts ∧ ts[3]? = some .none
/-- no exception is handled, or one that has no context -/
noncomputable def Quiet (c : Cx) (σ : Led) : Prop := c.A.handled = none ∨ ∃ b cls T, c.A.handled = some (.ref b) ∧ σ b = some (excO cls T)
theorem entry_unchain : entryFor table "proto.unchain" = some Builtin.«proto.unchain» := entryFor_of_tree (by kernel_rfl)
theorem plain_unchain : plainId "proto.unchain" = true := by decide +kernel
section
variable {prog : Program} {w : World} {A : Around} {E : Value → Shared → Prop} {s : Shared}
/-- a new exception is raised where one without a context is handled -/
theorem raiseNew_in {α : Type} {a b : Addr} {oa ob : Obj} {va vb : Array Value} {Q : α → Shared → Prop} (hh : A.handled = some (.ref b)) (hb : s.heap.get? b = some ob) (hdb : ob.data = .fields vb) (h2 : vb[2]? = some .none) (ha : s.heap.get? a = some oa) (hda : oa.data = .fields va) (hza : 2 < va.size) (hne : a ≠ b)
    (h : ∀ h', Heap.SameBut a s.heap h' → h'.get? a = some (Obj.mapFields (·.setIfInBounds 2 (.ref b)) oa) → E (.ref a) { s with heap := h' }) : wpAny (model prog w) A (raiseNew (.ref a) : Sem α) Q E s := by
  unfold raiseNew
  refine wpAny_bind (wpAny_handled ?_)
  rw [hh]
  dsimp only
  rw [if_pos (by simp [Ne.symm hne])]
  refine wpAny_bind (wpAny_holding (wpAny_runValue (codeAny_builtin entry_unchain ?_)))
  rw [Around.under_plainId plain_unchain _]
  show wpAny _ _ (field (.ref b) 2 >>= _) _ _ s
  refine wpAny_bind (wpAny_field hb hdb h2 ?_)
  rw [if_pos (by rfl)]
  refine wpAny_pure ?_
  unfold updateField
  refine wpAny_bind (wpAny_bind (wpAny_load ha ?_))
  rw [hda]
  dsimp only
  rw [if_pos hza]
  refine wpAny_update ha (wpAny_throw (h _ (Heap.SameBut.update ..) ?_))
  exact Heap.get?_update_self _ ha (Obj.isFreed_of_fields (Obj.data_mapFields hda _))
theorem next_endQ {it l : Addr} {i : Nat} {items : Array Value} {Q : Option Value → Shared → Prop} (hh : A.handled = none ∨ ∃ b ob vb, A.handled = some (.ref b) ∧ s.heap.get? b = some ob ∧ ob.data = .fields vb ∧ vb[2]? = some .none ∧ b ≠ it)
    (hit : s.heap.IsListIter it l i) (hl : s.heap.IsList l items) (hx : items[i]? = none) (hQ : ∀ h', Heap.ExtBut it s.heap h' → Q none { s with heap := h' }) : wpAny (model prog w) A (pyNext (.ref it)) Q E s := by
  rcases hh with hh | ⟨b, ob, vb, hh, hb, hdb, h2, hbi⟩
  · exact wpAny_pyNext_list_end hh hit hl hx hQ
  obtain ⟨o, ho, hc, hd⟩ := id hit
  obtain ⟨ol, hol, _, nl, hdl⟩ := hl
  unfold pyNext
  refine wpAny_bind (wpAny_attempt (wpAny_callSpecial?_slot (name := Str.ofString "__next__") hit.typeIs slot_listiter_next (wpAny_call_entry slot_listiter_next hit.typeIs entry_listiter_next ?_ (args_listiter_next _))))
  show wpAny _ _ (field (.ref it) 0 >>= _) _ _ s
  refine wpAny_bind (wpAny_field ho hd (x := .ref l) rfl ?_)
  show wpAny _ _ (if (Value.ref l == Value.none) = true then _ else _) _ _ s
  rw [if_neg (show ¬ ((Value.ref l == Value.none) = true) from Bool.false_ne_true)]
  show wpAny _ _ (field (.ref it) 1 >>= _) _ _ s
  refine wpAny_bind (wpAny_field ho hd (x := .int i 0) rfl ?_)
  show wpAny _ _ (seqItems? (.ref l) >>= _) _ _ s
  refine wpAny_bind (wpAny_seqItems hol hdl ?_)
  simp only [Int.toNat_natCast, hx]
  refine wpAny_bind (wpAny_rule (wpAny_bind (wpAny_setField ho hd (by simp) ?_)))
  show wpAny _ _ (newExc (.type "StopIteration") [] >>= _) _ _ _
  refine wpAny_bind ?_
  simp only [newExc, newTuple]
  refine wpAny_bind (wpAny_newObj_type ?_ (by size_fits))
  refine wpAny_bind (m := firstArgMember _ _) (wpAny_of_eq (a := Value.none) (by first | rfl | (simp only [firstArgMember]; rfl)) ?_)
  refine wpAny_newObj_type ?_ (by size_fits)
  have hb' := Heap.get?_push_of_some { cls := .type "tuple", data := .seq ([] : List Value).toArray } ((Heap.get?_update_other s.heap (Obj.mapFields (·.setIfInBounds 0 Value.none)) (Ne.symm hbi)).trans hb)
  refine raiseNew_in (by exact hh) (Heap.get?_push_of_some _ hb') hdb h2 (Heap.get?_push_size _ rfl) rfl (by rw [Array.size_append]; exact Nat.lt_of_lt_of_le (by decide) (Nat.le_add_right 6 _)) (fun e => ?_) fun h' hs ha => ?_
  · have := Heap.lt_size hb'
    rw [e] at this
    exact Nat.lt_irrefl _ this
  refine wpAny_bind (wpAny_isInstance (T := "StopIteration") (b := true) ⟨_, ha, rfl⟩ isSubtype_stop ?_)
  refine wpAny_pure (hQ _ fun d od hd' e => ?_)
  have e1 := Heap.get?_push_of_some { cls := .type "tuple", data := .seq ([] : List Value).toArray } ((Heap.get?_update_other s.heap (Obj.mapFields (·.setIfInBounds 0 Value.none)) (Ne.symm hd')).trans e)
  refine (hs.2 d fun z => ?_).trans (Heap.get?_push_of_some _ e1)
  have := Heap.lt_size e1
  rw [z] at this
  exact Nat.lt_irrefl _ this
end
theorem Quiet.le {c : Cx} {σ τ : Led} (h : Quiet c σ) (hle : ∀ b o, σ b = some o → τ b = some o) : Quiet c τ := h.imp id fun ⟨b, cls, T, h1, h2⟩ => ⟨b, cls, T, h1, hle _ _ h2⟩
section
variable {c : Cx} {E : Value → Loc → Led → Prop} {m : Loc} {σ : Led} {env : Env}
theorem Iter.listQ (I l : Addr) (xs : List AV) : Iter c I xs (fun τ => τ l = some (.list xs) ∧ Quiet c τ) (isLIter l) where
  item := fun {i x m τ Q E} st hI hx h φ s hd hA => by
    have hne := ne_of_led st.1 hI
    obtain ⟨o, ho, k⟩ := hA.led I _ (Led.un_left Led.set_self)
    obtain ⟨ol, hol, vs, n, rfl, hv⟩ := hA.led l (.list xs) (Led.un_left ((Led.set_ne hne).trans st.1))
    obtain ⟨v, hv', he⟩ := getElem_er hv hx
    refine wpAny_pyNext_list_item ⟨o, ho, k⟩ ⟨_, hol, rfl, n, rfl⟩ hv' fun h' hit hs => ?_
    obtain ⟨o', ho', k'⟩ := hit
    exact PQ.next (o' := isLIter l (i + 1)) hd hA hs ho' k' (h v he)
  done := fun {m τ Q E} st hI h φ s hd hA => by
    have hne := ne_of_led st.1 hI
    obtain ⟨o, ho, k⟩ := hA.led I _ (Led.un_left Led.set_self)
    obtain ⟨ol, hol, vs, n, rfl, hv⟩ := hA.led l (.list xs) (Led.un_left ((Led.set_ne hne).trans st.1))
    refine next_endQ (st.2.imp id ?_) ⟨o, ho, k⟩ ⟨_, hol, rfl, n, rfl⟩ (by simp [← hv]) fun h' he => PQ.gone hI hd hA he h
    rintro ⟨b, cls, T, h1, h2⟩
    have hb := ne_of_led h2 hI
    obtain ⟨ob, hob, _, vb, q1, _, q2⟩ := hA.led b (excO cls T) (Led.un_left ((Led.set_ne hb).trans h2))
    exact ⟨b, ob, vb, h1, hob, q1, q2, hb⟩
theorem W_For_listQ {target iter : Expr} {body : List Stmt} {pos : Pos} {Q : Flow → Loc → Led → Prop} (ok : Okay c) (hf : env.frame = some c.f)
    (h : W c (eval iter env) (fun v m σ => ∃ l xs, ∃ Inv : Nat → Loc → Led → Prop, v = .ref l ∧ σ l = some (.list xs) ∧ Inv 0 m σ ∧ (∀ i m τ, Inv i m τ → τ l = some (.list xs) ∧ Quiet c τ) ∧
      (∀ i x v m τ, xs[i]? = some x → er v = x → Inv i m τ → W c (assign target env v) (fun _ m τ => W c (execs body env) (ForPost Q (Inv (i + 1))) E m τ) E m τ) ∧ (∀ m τ, Inv xs.length m τ → Q .next m τ)) E m σ)
    (hs : ∀ x, foldedSetIterable iter env x = pure x := by intro _; rfl) (ht : ∀ it v, letOwnedTupleGo target it v = pure () := by intro _ _; rfl) : W c (exec (.For target iter body [] pos) env) Q E m σ :=
  W_For ok hf (W_mono h (fun v m σ x => by
    obtain ⟨l, xs, Inv, rfl, hl, h0, hst, turn, fin⟩ := x
    exact W_pyIter_list hl fun I hI => ⟨I, xs, _, _, σ, Inv, rfl, Iter.listQ I l xs, rfl, hI, hst, h0, turn, fin⟩) fun _ _ _ x => x) hs ht
noncomputable abbrev NoX : Value → Loc → Led → Prop := fun _ _ _ => False
/-- an exception onto the ledger, and off it -/
noncomputable def expo (σ : Led) (a T : Addr) (cls : Value) : Led := (σ.set a (excO cls T)).set T traO
theorem At.add {w : World} {B h : Heap} {fs : List (Addr × Loc)} {σ : Led} {a : Addr} {o : Obj} {ao : AO} (x : At w B fs h σ) (ho : h.get? a = some o) (k : ao.ok w o) (hB : B.get? a = none) (hf : ∀ p ∈ fs, a ≠ p.1) : At w B fs h (σ.set a ao) := by
  refine ⟨x.keep, x.frames, x.above, x.nodup, fun b bo e => ?_, fun b bo e => ?_, fun b bo e p hp => ?_⟩
  · by_cases q : b = a
    · subst q; rw [Led.set_self] at e; cases e; exact ⟨o, ho, k⟩
    · rw [Led.set_ne q] at e; exact x.led b bo e
  · by_cases q : b = a
    · subst q; exact hB
    · rw [Led.set_ne q] at e; exact x.new b bo e
  · by_cases q : b = a
    · subst q; exact hf p hp
    · rw [Led.set_ne q] at e; exact x.apart b bo e p hp
theorem expose {w : World} {B h : Heap} {fs : List (Addr × Loc)} {σ φ : Led} {e cls : Value} (hd : Dis σ φ) (hA : At w B fs h (σ.un φ)) (x : ExcTr B fs h (σ.un φ) e cls .none) :
    ∃ a T, e = .ref a ∧ σ a = none ∧ σ T = none ∧ T ≠ a ∧ Dis (expo σ a T cls) φ ∧ At w B fs h ((expo σ a T cls).un φ) := by
  obtain ⟨a, o, vs, T, oT, ts, rfl, h2, h3, h4, h5, h6, h7, h8, h9, h10, h11, h12, h13, h14, h15, h16⟩ := x
  have ea := Led.un_none h5
  have eT := Led.un_none h12
  refine ⟨a, T, rfl, ea.1, eT.1, h9, (hd.set ea.2).set eT.2, ?_⟩
  unfold expo
  rw [Led.un_set, Led.un_set]
  exact At.add (ao := traO) (At.add (ao := excO cls T) hA h2 ⟨h3, vs, h4, h8, h16⟩ h6 h7) h10 ⟨ts, h11, h15⟩ h13 h14
theorem hide {w : World} {B h : Heap} {fs : List (Addr × Loc)} {σ φ : Led} {a T : Addr} {cls : Value} (ha : σ a = none) (hT : σ T = none) (hne : T ≠ a) (hd : Dis (expo σ a T cls) φ) (hA : At w B fs h ((expo σ a T cls).un φ)) :
    Dis σ φ ∧ At w B fs h (σ.un φ) ∧ ExcTr B fs h (σ.un φ) (.ref a) cls .none := by
  have pT : expo σ a T cls T = some traO := Led.set_self
  have pa : expo σ a T cls a = some (excO cls T) := (Led.set_ne (Ne.symm hne)).trans Led.set_self
  have fa : φ a = none := (hd a).resolve_left (by rw [pa]; intro q; cases q)
  have fT : φ T = none := (hd T).resolve_left (by rw [pT]; intro q; cases q)
  have sub : ∀ b o, σ b = some o → expo σ a T cls b = some o := fun b o e => by
    unfold expo
    rw [Led.set_ne (fun z => by rw [z, hT] at e; cases e), Led.set_ne (fun z => by rw [z, ha] at e; cases e)]; exact e
  refine ⟨fun b => ?_, hA.sub fun b ao e => ?_, ?_⟩
  · rcases hd b with e | e
    · left
      cases q : σ b with
      | none => rfl
      | some o => rw [sub b o q] at e; cases e
    · exact .inr e
  · cases q : σ b with
    | some o => rw [Led.un_left q] at e; exact (Led.un_left (sub b o q)).trans e
    | none =>
      rw [Led.un_right q] at e
      have : expo σ a T cls b = none := by
        unfold expo
        rw [Led.set_ne (fun z => by rw [z, fT] at e; cases e), Led.set_ne (fun z => by rw [z, fa] at e; cases e)]; exact q
      rw [Led.un_right this]; exact e
  · obtain ⟨o, ho, hc, vs, hv, h1, h2⟩ := hA.led a _ (Led.un_left pa)
    obtain ⟨oT, hoT, ts, ht, h3⟩ := hA.led T _ (Led.un_left pT)
    exact ⟨a, o, vs, T, oT, ts, rfl, ho, hc, hv, (Led.un_right ha).trans fa, hA.new a _ (Led.un_left pa), hA.apart a _ (Led.un_left pa), h1, hne, hoT, ht, (Led.un_right hT).trans fT, hA.new T _ (Led.un_left pT), hA.apart T _ (Led.un_left pT), h3, h2⟩
/-- try with one clause, without a name, that takes all; what is handled lies on the ledger -/
theorem W_TryV {body : List Stmt} {b₀ : Stmt} {suite : List Stmt} {t : Expr} {pos pos' : Pos} {Q : Flow → Loc → Led → Prop} (ok : Okay c) (hf : env.frame = some c.f)
    (h : W c (execs body env) Q (fun cls m σ => ∀ a T, σ a = none → σ T = none → T ≠ a → W (c.mark (.ref a)) (eval t env) (fun tv m' σ' => Meets1 c cls tv ∧ m' = m ∧ σ' = expo σ a T cls) NoX m (expo σ a T cls) ∧ W (c.mark (.ref a)) (execs (b₀ :: suite) env) Q E m (expo σ a T cls)) m σ) :
    W c (exec (.Try body [.ExceptHandler (some t) none (b₀ :: suite) pos'] [] [] pos) env) Q E m σ := fun φ s hd hA => by
  refine wpAny_Try_except (wpAny_mono (h φ s hd hA) (fun f s₁ x => ?_) fun e s₁ x => ?_)
  · cases f <;> first | exact wpAny_execs_nil x | exact x
  · obtain ⟨h₁, tk₁, m₁, σ₁, cls, rfl, hd₁, hA₁, hx₁, hW⟩ := x
    refine noteFrame_at ok hf hA₁ hx₁ fun h₂ hA₂ hx₂ => ?_
    refine setFlight_tr hA₂ hx₂ fun h₃ hA₃ hx₃ => ?_
    obtain ⟨a, T, rfl, ha, hT, hne, hdτ, hAτ⟩ := expose hd₁ hA₃ hx₃
    obtain ⟨htest, hsuite⟩ := hW a T ha hT hne
    refine wpAny_handleBy_cons (codeAny_handlers_test (wpAny_mono (htest φ _ hdτ hAτ) (fun tv s₄ hz => ?_) fun x s₄ hz => by obtain ⟨_, _, _, _, _, _, _, _, _, q⟩ := hz; exact q.elim)) (by intro q; cases q)
    obtain ⟨h₄, tk₄, m₄, σ₄, rfl, hd₄, hA₄, hmeet, rfl, rfl⟩ := hz
    obtain ⟨hd₄', hA₄', hx₄⟩ := hide ha hT hne hd₄ hA₄
    obtain ⟨a', oa, vs, T', oT, ts, e', g1, g2, g3, _⟩ := id hx₄
    cases e'
    refine hmeet _ a oa _ _ _ hA₄.keep g1 g2 (fun cd q => by rw [g3] at q; cases q) ?_
    show codeAny _ _ _ _ _
    refine codeAny_handlers_suite (setFlight_tr hA₄' hx₄ fun h₅ hA₅ hx₅ => ?_)
    obtain ⟨a', T', e', ha', hT', hne', hdτ', hAτ'⟩ := expose hd₄' hA₅ hx₅
    cases e'
    refine wpAny_mono ((hW a T' ha' hT' hne').2 φ _ hdτ' hAτ') (fun f s₆ hz => ?_) fun x s₆ hz => ?_
    · obtain ⟨h₆, tk₆, m₆, σ₆, rfl, hd₆, hA₆, hq⟩ := hz
      exact ⟨h₆, tk₆, m₆, σ₆, rfl, hd₆, hA₆, hq⟩
    · refine passesAt ok hf x s₆ ?_
      obtain ⟨h₆, tk₆, m₆, σ₆, cls₆, rfl, hd₆, hA₆, hx₆, hq⟩ := hz
      exact ⟨h₆, tk₆, m₆, σ₆, cls₆, rfl, hd₆, hA₆, hx₆, hq⟩
/-- raise, in the clause itself -/
theorem W_RaiseBare {a T : Addr} {cls : Value} {pos : Pos} {Q : Flow → Loc → Led → Prop} (hh : c.A.handled = some (.ref a)) (hf : env.frame = some c.f) (ha : σ a = none) (hT : σ T = none) (hne : T ≠ a) (h : E cls m σ) :
    W c (exec (.Raise none none pos) env) Q E m (expo σ a T cls) := fun φ s hd hA => by
  obtain ⟨hd', hA', hx⟩ := hide ha hT hne hd hA
  show wpAny _ _ (standAt pos >>= fun _ => raiseStmt env none none) _ _ s
  refine wpAny_bind (wpAny_standAt ?_)
  unfold raiseStmt
  refine wpAny_bind (wpAny_handled ?_)
  rw [hh]
  dsimp only
  refine wpAny_bind (wpAny_rule ?_)
  obtain ⟨a', o, vs, T', oT, ts, e', h2, h3, h4, h5, h6, h7, h8, _⟩ := id hx
  cases e'
  refine wpAny_bind (wpAny_field h2 h4 h8 ?_)
  rw [if_neg (by simp)]
  refine wpAny_bind (setFlight_tr hA' hx fun h₁ hA₁ hx₁ => wpAny_throw ?_)
  refine ⟨h₁, s.toks, m, σ, cls, rfl, hd', hA₁, hx₁.exc (.inr ?_), h⟩
  rw [hf]; rfl
end
end Mine
end
section
set_option maxRecDepth 100000
namespace Mine
theorem leftO {p q : Program} {loose : List Str} {Xt : Shared → Bool} {α : Type} {Yf : Shared → α} {Ya : World → α} {N : Nat} {g0 : Bool} {H₀ : Params → Heap} {gs₀ : Array GenState} {d₀ : Drawn} {k₀ : Nat}
    (open_ : ∀ w : World, (fencedOpening treeTable p w N).map (fun s => (s.heap, s.gens, s.drawn, s.toks)) = some (H₀ w.params, gs₀, d₀, k₀))
    (h : ∀ (w : World) (os : OsState), (topFrom treeTable p w N ⟨H₀ w.params, gs₀, d₀, k₀, os⟩).map (fun s => (openSeen q loose (importedModules p.main.body) Xt g0 s, Yf s)) = some (openGood q loose, Ya w)) : LeftO p q loose Xt Yf Ya N g0 := fun w => by
  obtain ⟨⟨h₁, gs, d, k, os⟩, e, e'⟩ := Option.map_eq_some_iff.mp (open_ w)
  obtain ⟨rfl, rfl, rfl, rfl⟩ : h₁ = H₀ w.params ∧ gs = gs₀ ∧ d = d₀ ∧ k = k₀ := by simpa using e'
  unfold openEnds
  rw [e]
  exact h w os
noncomputable def vw : Program := view PySem.Challenge.pw_nq0156_01 [0, 3, 4, 6, 7, 8, 9, 10, 12, 13, 14, 15, 16, 17, 18, 19]
noncomputable def lo : List Str := [Str.mk (Array.mk [nat_lit 95, nat_lit 100, nat_lit 101, nat_lit 100, nat_lit 117, nat_lit 112, nat_lit 108, nat_lit 105, nat_lit 99, nat_lit 97, nat_lit 116, nat_lit 101]), Str.mk (Array.mk [nat_lit 95, nat_lit 78, nat_lit 111, nat_lit 100, nat_lit 101, nat_lit 73, nat_lit 110, nat_lit 102, nat_lit 111])]
theorem bootN : ∀ w : World, (fencedOpening treeTable PySem.Challenge.pw_nq0156_01 w 2882).map (fun s => (s.heap, s.gens, s.drawn, s.toks)) = some (boot_heap w.params, Array.mk [], boot_drawn, boot_toks) :=
  boot_open (by kernel_rfl) (by kernel_rfl) (fun s => by kernel_rfl)
local macro_rules | `(tactic| o_law) => `(tactic| refine holds_law (by rw [PySem.W.Fast.te9446332074065402090]; decide +kernel) fun said => ?_)
local macro_rules | `(tactic| o_head $H) => `(tactic| (
  refine holds_open (q := Mine.vw) (loose := Mine.lo) (Xt := fun s => xlAt Mine.vw [] s && recOk (RowW.records (OpenRow.toRowW PySem.Challenge.rw_nq0156_01.row)) s) (XP := XL Mine.vw []) (Yf := Hook.obs $H) (Ya := Hook.val $H) (YP := Hook.says $H) (N := 2882) ?hl (Hook.of $H) (Hook.keeps $H) (fun s e => xl_of s (Bool.and_eq_true_iff.mp e).1) XL.keeps (by rfl) (by rfl) (by rfl) (fun s e => recFacts_of (Bool.and_eq_true_iff.mp e).2) (by rfl) (by first | assumption | decide +kernel) (by decide +kernel) ⟨rfl, rfl, rfl, rfl, rfl, by decide +kernel⟩ ?hw ?hc
  case hl =>
    refine leftO bootN fun w os => ?_
    unfold topFrom
    rw [PySem.W.Fast.te14082659384304107361, PySem.W.Fast.te14364793385576792824, PySem.W.Fast.te4187177175401517315]
    kernel_rfl))
set_option maxHeartbeats 8000000 in
open_top hd for PySem.Challenge.rw_nq0156_01
end Mine
end
section
namespace Mine
theorem fillA : (fun (_ : OpenLaw) (_ : Params → Frag) => True) PySem.Challenge.rw_nq0156_01 Mine.hd.heap_1 := by
  k_fill; trivial
set_option maxRecDepth 100000 in
set_option maxHeartbeats 1000000 in
theorem dedUQ {c : Cx} {E : Value → Loc → Led → Prop} {m : Loc} {σ : Led} {Q : Value → Loc → Led → Prop} {p : Addr} {l : List (PyData × AV)} (G : Good Mine.hd.heap_1 2 c) (hqq : Quiet c σ)
    (hp : σ p = some (.list (l.map (·.2)))) (hl : Rds σ l) (hz : l.length ≤ 100000) (h : ∀ a, σ a = none → Q (.ref a) m (σ.set a (.list ((ded l).map (·.2))))) : W c (call (.ref 36) [.ref p]) Q E m σ := by
  refine W_fn [("unhashable_params", .ref p)] G (by k_is) (by k_is) (by rfl) (by rfl) fun L hL G1 => ?_
  refine W_execs_cons (W_Assign_Name (W_List (W_items_nil (W_newList fun a ha => W_storeLocal rfl (W_execs_cons ?_)))))
  refine W_For_listQ G1.ok rfl (W_name (W_loadLocal rfl (by rfl) fun v hv => ?_))
  obtain rfl := er_ref hv
  refine ⟨p, l.map (·.2), fun i m τ => m "new_unhashable" = some (.ref a) ∧ τ = σ.set a (.list ((ded (l.take i)).map (·.2))), rfl, Led.set_old hp ha, ⟨by rfl, by rfl⟩, fun i m τ hI => ?_, fun i x v m₁ τ hx hv hI => ?_, fun m₁ τ hI => ?_⟩
  · rw [hI.2]; exact ⟨Led.set_old hp ha, (show Quiet c σ from hqq).le (Led.sub_set ha)⟩
  · obtain ⟨hm, rfl⟩ := hI
    obtain ⟨q, hq, rfl⟩ : ∃ q, l[i]? = some q ∧ q.2 = x := by
      rw [List.getElem?_map] at hx
      cases e : l[i]? with
      | none => rw [e] at hx; cases hx
      | some q => rw [e] at hx; exact ⟨q, rfl, by simpa using hx⟩
    refine W_assignName (W_storeLocal rfl ?_)
    refine W_execs_cons (W_If (W_isTrue_Compare (W_Compare (W_name (W_loadLocal rfl (by rfl) fun v' hv' => W_name (W_loadLocal rfl hm fun u hu => ?_))))))
    obtain rfl := er_ref hu
    have hin : q ∈ l := List.mem_of_getElem? hq
    have hl' : Rds (σ.set a (.list ((ded (l.take i)).map (·.2)))) l := hl.mono (Led.sub_set ha)
    have hd' : Rds (σ.set a (.list ((ded (l.take i)).map (·.2)))) (ded (l.take i)) := hl'.sub fun q hq => List.mem_of_mem_take (ded_mem hq)
    have hlen : (ded (l.take i)).length ≤ 100000 := Nat.le_trans (ded_length _) (by rw [List.length_take]; omega)
    refine W_notIn (ds := (ded (l.take i)).map (·.1)) (d := q.1) ⟨a, _, rfl, Led.set_self, hd'.rds⟩ (by rw [hv', hv]; exact (hl' q hin).1) hd'.lay (hl' q hin).2.1 (G1.unit (k := 51) (by decide) |> fun z => by have := (hl' q hin).2.2; omega) (W_truthyBool ?_)
    have e : (List.map (fun x => x.1) (ded (l.take i))).any (fun y => PyData.eqv y q.1) = (ded (l.take i)).any (fun p => PyData.eqv p.1 q.1) := by rw [List.any_map]; rfl
    rw [e]
    cases hb : (ded (l.take i)).any (fun p => PyData.eqv p.1 q.1) with
    | true =>
      refine W_execs_nil (W_execs_nil ⟨hm, ?_⟩)
      rw [ded_take_succ hq]; unfold dedStep; rw [if_pos hb]
    | false =>
      refine W_execs_cons (W_Expr (W_CallMethod (W_name (W_loadLocal rfl hm fun u hu => ?_))))
      obtain rfl := er_ref hu
      refine W_getMethod_list PySem.F.slot_list_append PySem.F.type_list_append Led.set_self ?_
      refine W_callWithB (by intro a h; cases h) (W_items_cons (W_name (W_loadLocal rfl (by rfl) fun v' hv' => W_items_nil ?_)))
      refine W_append Led.set_self ?_ (by rw [List.length_map]; exact Nat.le_trans hlen (by decide))
      refine W_execs_nil (W_execs_nil ⟨hm, ?_⟩)
      rw [Led.set_set, hv', hv, ded_take_succ hq]
      unfold dedStep; rw [hb]; simp
  · obtain ⟨hm, rfl⟩ := hI
    refine W_execs_cons (W_Return (W_name (W_loadLocal rfl hm fun v hv => ?_)))
    obtain rfl := er_ref hv
    have := h a ha
    rw [List.length_map, List.take_length]
    exact this
/-- the items of l taken out of t, one by one -/
noncomputable def remAll (l t : List (PyData × AV)) : Option (List (PyData × AV)) := l.foldl (fun acc x => acc.bind (remD x.1)) (some t)
noncomputable def cmpF (l1 l2 : List (PyData × AV)) : Bool := match remAll (ded l1) (ded l2) with | none => false | some r => r.isEmpty
theorem remAll_take_succ {l t : List (PyData × AV)} {i : Nat} {p : PyData × AV} (h : l[i]? = some p) : remAll (l.take (i + 1)) t = (remAll (l.take i) t).bind (remD p.1) := by
  unfold remAll; rw [List.take_add_one, h]; simp
theorem remD_sub {d : PyData} {l r : List (PyData × AV)} (h : remD d l = some r) : (∀ q ∈ r, q ∈ l) ∧ r.length ≤ l.length := by
  obtain ⟨j, hj, _, _, rfl⟩ := remD_some h
  exact ⟨fun q hq => List.mem_of_mem_eraseIdx hq, List.length_eraseIdx_le ..⟩
theorem foldl_bind_none (l : List (PyData × AV)) : l.foldl (fun acc x => acc.bind (remD x.1)) (none : Option (List (PyData × AV))) = none := by
  induction l with
  | nil => rfl
  | cons _ _ ih => exact ih
theorem remAll_none {l t : List (PyData × AV)} {i : Nat} (h : remAll (l.take i) t = none) : remAll l t = none := by
  have e := List.take_append_drop i l
  unfold remAll at h ⊢
  rw [← e, List.foldl_append, h, foldl_bind_none]
theorem dedU {c : Cx} {E : Value → Loc → Led → Prop} {m : Loc} {σ : Led} {Q : Value → Loc → Led → Prop} {p : Addr} {l : List (PyData × AV)} (G : Good Mine.hd.heap_1 2 c) (hh : c.A.handled = none)
    (hp : σ p = some (.list (l.map (·.2)))) (hl : Rds σ l) (hz : l.length ≤ 100000) (h : ∀ a, σ a = none → Q (.ref a) m (σ.set a (.list ((ded l).map (·.2))))) : W c (call (.ref 36) [.ref p]) Q E m σ := dedUQ G (.inl hh) hp hl hz h
set_option maxRecDepth 100000 in
set_option maxHeartbeats 2000000 in
theorem cmpO {c : Cx} {E : Value → Loc → Led → Prop} {m : Loc} {σ : Led} {Q : Value → Loc → Led → Prop} {p q : Addr} {l1 l2 : List (PyData × AV)} (G : Good Mine.hd.heap_1 4 c) (hh : c.A.handled = none)
    (hp : σ p = some (.list (l1.map (·.2)))) (hq : σ q = some (.list (l2.map (·.2)))) (hl1 : Rds σ l1) (hl2 : Rds σ l2) (hz1 : l1.length ≤ 100000) (hz2 : l2.length ≤ 100000) (h : Q (.bool (cmpF l1 l2)) m σ) : W c (call (.ref 43) [.ref p, .ref q]) Q E m σ := by
  refine W_weaken (Q' := fun v m' σ' => v = .bool (cmpF l1 l2) ∧ m' = m ∧ ∀ b o, σ b = some o → σ' b = some o) (E' := fun _ _ _ => False) ?_ (fun v m' σ' ⟨a, b, d⟩ => ⟨σ, d, by rw [a, b]; exact h⟩) (fun _ _ _ x => x.elim)
  refine W_fn [("first_args", .ref p), ("second_args", .ref q)] G (by k_is) (by k_is) (by rfl) (by rfl) fun L hL G1 => ?_
  -- the two lists weeded
  refine W_execs_cons (W_Assign_Name (W_Call (W_name (W_loadGlobal (W_global G1 (by k_is) (W_callWithK G1.X (by k_is) (W_items_cons (W_name (W_loadLocal rfl (by rfl) fun v hv => W_items_nil ?_)))))))))
  obtain rfl := er_ref hv
  refine dedU (l := l1) (G1.le (by decide)) hh hp hl1 hz1 fun a ha => W_storeLocal rfl ?_
  refine W_execs_cons (W_Assign_Name (W_Call (W_name (W_loadGlobal (W_global G1 (by k_is) (W_callWithK G1.X (by k_is) (W_items_cons (W_name (W_loadLocal rfl (by rfl) fun v hv => W_items_nil ?_)))))))))
  obtain rfl := er_ref hv
  refine dedU (l := l2) (G1.le (by decide)) hh (Led.set_old hq ha) (hl2.mono (Led.sub_set ha)) hz2 fun b hb => W_storeLocal rfl ?_
  have hab : a ≠ b := fun e => by rw [← e, Led.set_self] at hb; cases hb
  -- t = list(second_unhashable)
  refine W_execs_cons (W_Assign_Name (W_Call (W_name (W_loadGlobal (W_builtinName G1 (by k_is) PyProof.Rows.boot_list (by decide) (W_callWithB (by intro a h; cases h) (W_items_cons (W_name (W_loadLocal rfl (by rfl) fun v hv => W_items_nil ?_)))))))))
  obtain rfl := er_ref hv
  have hz2' : (ded l2).length ≤ 100000 := Nat.le_trans (ded_length _) hz2
  refine W_listCopy (xs := (ded l2).map (·.2)) (.inl Led.set_self) (by rw [List.length_map]; exact Nat.le_trans hz2' (by decide)) fun t ht => W_storeLocal rfl ?_
  generalize hσ₁ : (σ.set a (.list ((ded l1).map (·.2)))).set b (.list ((ded l2).map (·.2))) = σ₁ at ht ⊢
  have hσ : ∀ x o, σ x = some o → σ₁ x = some o := fun x o e => by rw [← hσ₁]; exact Led.set_old (Led.set_old e ha) hb
  have h1a : σ₁ a = some (.list ((ded l1).map (·.2))) := by rw [← hσ₁, Led.set_ne hab]; exact Led.set_self
  have hd1 : Rds σ₁ (ded l1) := (hl1.mono hσ).sub fun _ => ded_mem
  have hd2 : Rds σ₁ (ded l2) := (hl2.mono hσ).sub fun _ => ded_mem
  have fin : ∀ o x o', σ x = some o' → σ₁.set t o x = some o' := fun o x o' e => Led.set_old (hσ _ _ e) ht
  refine W_execs_cons (W_Try G1.ok rfl (W_execs_cons (W_For_list G1.ok hh rfl (W_name (W_loadLocal rfl (by rfl) fun v hv => ?_)))))
  obtain rfl := er_ref hv
  refine ⟨a, (ded l1).map (·.2), fun i m τ => m "t" = some (.ref t) ∧ ∃ r, remAll ((ded l1).take i) (ded l2) = some r ∧ (∀ q ∈ r, q ∈ ded l2) ∧ r.length ≤ (ded l2).length ∧ τ = σ₁.set t (.list (r.map (·.2))), rfl, Led.set_old h1a ht, ⟨by rfl, ded l2, rfl, fun _ h => h, Nat.le_refl _, rfl⟩, fun i m τ hI => ?_, fun i x v m₁ τ hx hv hI => ?_, fun m₁ τ hI => ?_⟩
  · obtain ⟨_, r, _, _, _, rfl⟩ := hI
    exact Led.set_old h1a ht
  · obtain ⟨hm, r, hr, hsub, hlen, rfl⟩ := hI
    obtain ⟨q, hq', rfl⟩ : ∃ q, (ded l1)[i]? = some q ∧ q.2 = x := by
      rw [List.getElem?_map] at hx
      cases e : (ded l1)[i]? with
      | none => rw [e] at hx; cases hx
      | some q => rw [e] at hx; exact ⟨q, rfl, by simpa using hx⟩
    have hin : q ∈ ded l1 := List.mem_of_getElem? hq'
    refine W_assignName (W_storeLocal rfl (W_execs_cons (W_Expr (W_CallMethod (W_name (W_loadLocal rfl hm fun u hu => ?_))))))
    obtain rfl := er_ref hu
    refine W_getMethod_list PySem.F.slot_list_remove PySem.F.type_list_remove Led.set_self ?_
    refine W_callWithB (by intro a h; cases h) (W_items_cons (W_name (W_loadLocal rfl (by rfl) fun v' hv' => W_items_nil ?_)))
    have hsub' := Led.sub_set (o := .list (r.map (·.2))) ht
    refine W_remove (d := q.1) (ys := r) (G1.unit (by decide)) hh Led.set_self ((hd2.sub hsub).mono hsub') (by rw [hv', hv]; exact (hd1 q hin).1.mono hsub') (hd1 q hin).2.1 (hd1 q hin).2.2 (Nat.le_trans hlen (Nat.le_trans hz2' (by decide))) ?_
    cases e : remD q.1 r with
    | some r' =>
      refine W_execs_nil ⟨hm, r', ?_, fun x hx => hsub x ((remD_sub e).1 x hx), Nat.le_trans (remD_sub e).2 hlen, by rw [Led.set_set]⟩
      rw [remAll_take_succ hq', hr]; exact e
    | none =>
      intro ev
      refine W_name (W_loadGlobal (W_builtinName (G1.mark _) (by k_is) PyProof.Rows.Boot.«ValueError» (by decide) ⟨?_, ?_⟩))
      · exact meets_builtin PySem.F.isExc_ValueError PySem.F.notTuple_ValueError (by rw [isSubtype_type]; kernel_rfl)
      · refine W_execs_cons (W_Return (W_constBool ⟨?_, rfl, fin _⟩))
        have hn : remAll (ded l1) (ded l2) = none := remAll_none (i := i + 1) (by rw [remAll_take_succ hq', hr]; exact e)
        unfold cmpF; rw [hn]; rfl
  · obtain ⟨hm, r, hr, hsub, hlen, rfl⟩ := hI
    refine W_execs_nil (W_execs_cons (W_Return (W_UnaryOp (W_name (W_loadLocal rfl hm fun v hv => ?_)))))
    obtain rfl := er_ref hv
    refine W_not (W_truthyList Led.set_self (by rw [List.length_map]; exact Nat.le_trans hlen (Nat.le_trans hz2' (by decide))) ⟨?_, rfl, fin _⟩)
    rw [List.length_map, List.take_length] at hr
    unfold cmpF; rw [hr]
    cases r <;> rfl
end Mine
end
section
namespace Mine
theorem fillB : (fun (_ : OpenLaw) (_ : Params → Frag) => True) PySem.Challenge.rw_nq0156_01 Mine.hd.heap_1 := by
  k_fill; trivial
set_option maxRecDepth 100000 in
set_option maxHeartbeats 1000000 in
theorem niInit {c : Cx} {E : Value → Loc → Led → Prop} {m : Loc} {σ : Led} {Q : Value → Loc → Led → Prop} {x dx : Addr} {node : Value} (G : Good Mine.hd.heap_1 2 c) (hx : σ x = some (.slots 62 dx [])) (hd : σ dx = some (.attrs []))
    (h : ∀ s, σ s = none → Q .none m ((σ.set s (.list [])).set x (.slots 62 dx [er node, .int 0, .ref s]))) : WC c (.call (.ref 58) ⟨[.ref x, node], []⟩) Q E m σ := by
  have hne : dx ≠ x := fun e => by rw [e, hx] at hd; cases hd
  refine WC_fn [("self", .ref x), ("node", node)] G (by k_is) (by k_is) (by rfl) (by rfl) fun L hL G1 => ?_
  refine W_execs_cons (W_Assign_Attribute (W_name (W_loadLocal rfl (by rfl) fun v hv => W_name (W_loadLocal rfl (by rfl) fun o ho => ?_))))
  obtain rfl := er_ref ho
  refine W_setSlot (i := 0) (xs' := [er v]) G1 hx hd (Nat.zero_le _) (by decide) (by k_is) (by k_is) (by k_is) (by k_is) (by k_is) rfl ?_
  refine W_execs_cons (W_Assign_Attribute (W_constInt fun t => W_name (W_loadLocal rfl (by rfl) fun o ho => ?_)))
  obtain rfl := er_ref ho
  refine W_setSlot (i := 1) (xs' := [er v, .int 0]) G1 Led.set_self ((Led.set_ne hne).trans hd) (Nat.le_refl _) (by decide) (by k_is) (by k_is) (by k_is) (by k_is) (by k_is) rfl ?_
  refine W_execs_cons (W_Assign_Attribute (W_List (W_items_nil (W_newList fun s hs => W_name (W_loadLocal rfl (by rfl) fun o ho => ?_)))))
  obtain rfl := er_ref ho
  have hsx : s ≠ x := fun e => by rw [e, Led.set_self] at hs; cases hs
  have hs' : σ s = none := by rw [Led.set_ne hsx, Led.set_ne hsx] at hs; exact hs
  refine W_setSlot (i := 2) (xs' := [er v, .int 0, .ref s]) G1 ((Led.set_ne (Ne.symm hsx)).trans Led.set_self) (Led.set_old ((Led.set_ne hne).trans ((Led.set_ne hne).trans hd)) hs) (Nat.le_refl _) (by decide) (by k_is) (by k_is) (by k_is) (by k_is) (by k_is) rfl ?_
  refine W_execs_nil ?_
  have := h s hs'
  rw [hv, Led.set_set, Led.set_comm (Ne.symm hsx), Led.set_set]
  exact this
set_option maxRecDepth 100000 in
set_option maxHeartbeats 2000000 in
theorem getInfo {c : Cx} {E : Value → Loc → Led → Prop} {m : Loc} {σ : Led} {Q : Value → Loc → Led → Prop} {x dx d : Addr} {ep : Nat} {ns : List NI} {rd : Option (Addr × List AV)} {p f : Int} {node : Value} {k : PKey} (G : Good Mine.hd.heap_1 5 c)
    (S : SC 62 159 σ x dx d ep ns rd p f) (hk : (er node).key = some k) (hz : ns.length ≤ 1000)
    (h1 : ∀ n ∈ ns, n.node.key = some k → Q (.ref n.a) m σ)
    (h2 : (∀ n ∈ ns, n.node.key ≠ some k) → ∀ a dxn s ep' σ', σ a = none → σ s = none → (∀ b o, b ≠ d → σ b = some o → σ' b = some o) → SC 62 159 σ' x dx d ep' (ns ++ [⟨er node, a, dxn, s, 0, []⟩]) rd p f → Q (.ref a) m σ') :
    W c (call (.ref 102) [.ref x, node]) Q E m σ := by
  refine W_fn [("self", .ref x), ("node", node)] G (by k_is) (by k_is) (by rfl) (by rfl) fun L hL G1 => ?_
  refine W_execs_cons (W_If (W_isTrue_Compare (W_Compare (W_NamedExpr (W_CallMethod (W_Attribute (W_name (W_loadLocal rfl (by rfl) fun o ho => ?_))))))))
  obtain rfl := er_ref ho
  refine W_getAttr G1 S.hx S.hdx (by rfl) (by intro u q; cases q) (by k_is) (by k_is) (by k_is) (by k_is) fun v hv => ?_
  obtain rfl := er_ref hv
  refine W_getMethod_dict PySem.F.slot_dict_get PySem.F.type_dict_get S.hd ?_
  refine W_callWithB (by intro a h; cases h) (W_items_cons (W_name (W_loadLocal rfl (by rfl) fun v hv => W_items_nil ?_)))
  refine W_dictGet G1 S.hd (k := k) (by rw [hv]; exact hk) fun r hr => ?_
  refine W_assignName (W_storeLocal rfl (W_constNone (W_isNone (W_truthyBool ?_))))
  by_cases hex : ∃ n ∈ ns, n.node.key = some k
  · obtain ⟨n, hn, hnk⟩ := hex
    rw [dget_nodes_some S.kn hn hnk] at hr
    obtain rfl := er_ref hr
    refine W_execs_nil (W_execs_cons (W_Return (W_name (W_loadLocal rfl (by rfl) fun v hv => ?_))))
    obtain rfl := er_ref hv
    exact h1 n hn hnk
  · have hno : ∀ n ∈ ns, n.node.key ≠ some k := fun n hn q => hex ⟨n, hn, q⟩
    rw [dget_nodes_none hno] at hr
    obtain rfl := er_none hr
    refine W_execs_cons (W_Assign_two (W_Call (W_name (W_loadGlobal (W_global G1 (by k_is) (W_callWithK G1.X (by k_is) (W_items_cons (W_name (W_loadLocal rfl (by rfl) fun vn hvn => W_items_nil ?_)))))))))
    refine W_make (fun dx => .slots 62 dx []) (fun dx => ⟨[], rfl, rfl⟩) G1 (by k_is) (by k_is) (by k_is) fun a dxn ha hdxn hne => ?_
    refine niInit (G1.make.le (by decide)) Led.set_self ((Led.set_ne (Ne.symm hne)).trans Led.set_self) fun s hs => ⟨rfl, ?_⟩
    refine W_assignSubscript (W_Attribute (W_name (W_loadLocal rfl (by rfl) fun o ho => ?_)))
    obtain rfl := er_ref ho
    have hsa : s ≠ a := fun e => by rw [e, Led.set_self] at hs; cases hs
    have hs1 : (σ.set dxn (.attrs [])) s = none := by rw [Led.set_ne hsa] at hs; exact hs
    have hsd : s ≠ dxn := fun e => by rw [e, Led.set_self] at hs1; cases hs1
    have hs2 : σ s = none := by rw [Led.set_ne hsd] at hs1; exact hs1
    generalize hσ : ((((σ.set dxn (.attrs [])).set a (.slots 62 dxn [])).set s (.list [])).set a (.slots 62 dxn [er vn, .int 0, .ref s])) = σ₁
    have keep : ∀ b o, σ b = some o → σ₁ b = some o := fun b o e => by
      have b1 := ne_of_led e ha
      have b2 := ne_of_led e hdxn
      have b3 := ne_of_led e hs2
      rw [← hσ, Led.set_ne b1, Led.set_ne b3, Led.set_ne b1, Led.set_ne b2]; exact e
    have S1 := S.mono keep
    have l1 : σ₁ a = some (.slots 62 dxn [er vn, .int 0, .ref s]) := by rw [← hσ]; exact Led.set_self
    have l2 : σ₁ s = some (.list []) := by rw [← hσ, Led.set_ne hsa]; exact Led.set_self
    have l3 : σ₁ dxn = some (.attrs []) := by rw [← hσ, Led.set_ne (Ne.symm hne), Led.set_ne (Ne.symm hsd), Led.set_ne (Ne.symm hne)]; exact Led.set_self
    refine W_getAttr G1 S1.hx S1.hdx (by rfl) (by intro u q; cases q) (by k_is) (by k_is) (by k_is) (by k_is) fun u hu => ?_
    obtain rfl := er_ref hu
    refine W_name (W_loadLocal rfl (by rfl) fun key hkey => ?_)
    refine W_setItemDict S1.hd (k := k) (by rw [hkey]; exact hk) (by rw [List.length_map]; exact Nat.le_trans hz (by decide)) fun ep' => ?_
    refine W_assignName (W_storeLocal rfl ?_)
    refine W_execs_nil (W_execs_cons (W_Return (W_name (W_loadLocal rfl (by rfl) fun v hv => ?_))))
    obtain rfl := er_ref hv
    have da : a ≠ d := fun e => by rw [e, S.hd] at ha; cases ha
    have ds : s ≠ d := fun e => by rw [e, S.hd] at hs2; cases hs2
    have dd : dxn ≠ d := fun e => by rw [e, S.hd] at hdxn; cases hdxn
    have hkeep : ∀ b o, b ≠ d → σ b = some o → σ₁.set d (.dict (dput (ns.map fun n => (n.node, AV.ref n.a)) k (er key) (er (.ref a))) ep') b = some o := fun b o q e => (Led.set_ne q).trans (keep b o e)
    refine h2 hno a dxn s ep' _ ha hs2 hkeep ?_
    have hnode : er key = er node := hkey
    refine S.push (k := k) hk hno hkeep ha hs2 ((Led.set_ne da).trans ?_) ((Led.set_ne dd).trans l3) ((Led.set_ne ds).trans l2) ?_
    · rw [l1, show er vn = er node from hvn]
    · rw [Led.set_self]; unfold dput; rw [kidx_nodes_none hno, hnode]; rfl
end Mine
end
section
namespace Mine
theorem fillC : (fun (_ : OpenLaw) (_ : Params → Frag) => True) PySem.Challenge.rw_nq0156_01 Mine.hd.heap_1 := by
  k_fill; trivial
theorem getInfo1 {c : Cx} {E : Value → Loc → Led → Prop} {m : Loc} {σ : Led} {Q : Value → Loc → Led → Prop} {x dx d : Addr} {ep : Nat} {ns : List NI} {rd : Option (Addr × List AV)} {p f : Int} {node : Value} {k : PKey} (G : Good Mine.hd.heap_1 5 c)
    (S : SC 62 159 σ x dx d ep ns rd p f) (hk : (er node).key = some k) (hz : ns.length ≤ 1000)
    (h : ∀ n ns' ep' σ', n ∈ ns' → n.node.key = some k → SC 62 159 σ' x dx d ep' ns' rd p f → ns'.map NI.pn = ensP k (er node) (ns.map NI.pn) → (∀ b o, b ≠ d → σ b = some o → σ' b = some o) → ns'.length ≤ ns.length + 1 → Q (.ref n.a) m σ') :
    W c (call (.ref 102) [.ref x, node]) Q E m σ :=
  getInfo G S hk hz (fun n hn hnk => h n ns ep σ hn hnk S (ensP_old ⟨n, hn, hnk⟩).symm (fun _ _ _ e => e) (Nat.le_succ _))
    fun hno a dxn s ep' σ' _ _ hkeep S' => h ⟨er node, a, dxn, s, 0, []⟩ _ ep' σ' (List.mem_append_right _ (.head _)) hk S' (ensP_new (n := ⟨er node, a, dxn, s, 0, []⟩) hno rfl).symm hkeep (by simp)
set_option maxRecDepth 100000 in
set_option maxHeartbeats 2000000 in
theorem add_ {c : Cx} {E : Value → Loc → Led → Prop} {m : Loc} {σ : Led} {Q : Value → Loc → Led → Prop} {x dx d : Addr} {ep : Nat} {ns : List NI} {p f : Int} {node : Value} {k : PKey} {vs : List Value} {ks : List (PKey × AV)} (G : Good Mine.hd.heap_1 7 c) (hh : c.A.handled = none)
    (S : SC 62 159 σ x dx d ep ns none p f) (hk : (er node).key = some k) (hz : ns.length ≤ 500) (hv : vs.map er = ks.map (·.2)) (hks : ∀ q ∈ ks, q.2.key = some q.1) (hkz : ks.length ≤ 100) (hsu : suB 1000 (ns.map NI.pn))
    (h : ∀ ns' ep' σ', SC 62 159 σ' x dx d ep' ns' none p f → ns'.map NI.pn = addP k (er node) ks (ns.map NI.pn) → Q .none m σ') :
    WC c (.call (.ref 109) ⟨.ref x :: node :: vs, []⟩) Q E m σ := by
  have hvl : vs.length = ks.length := by have := congrArg List.length hv; simpa using this
  refine WC_fnV [("self", .ref x), ("node", node)] "predecessors" vs G (by k_is) (by k_is) (by cases vs <;> rfl) (by rfl) (by rfl) (by rw [hvl]; exact Nat.le_trans hkz (by decide)) fun L a ha hL G1 => ?_
  have S0 := S.mono (Led.sub_set (o := .tuple (vs.map er)) ha)
  have ha0 : (σ.set a (.tuple (vs.map er))) a = some (.tuple (vs.map er)) := Led.set_self
  generalize σ.set a (.tuple (vs.map er)) = σ₀ at S0 ha0 ⊢
  refine W_execs_cons (W_If (W_isTrue_Compare (W_Compare (W_Attribute (W_name (W_loadLocal rfl (by rfl) fun o ho => ?_))))))
  obtain rfl := er_ref ho
  refine W_getAttr G1 S0.hx S0.hdx (by rfl) (by intro u q; cases q) (by k_is) (by k_is) (by k_is) (by k_is) fun v hv' => ?_
  obtain rfl := er_none hv'
  refine W_constNone (W_isNotNone (W_truthyBool (W_execs_nil ?_)))
  -- nodeinfo = self._get_nodeinfo(node)
  refine W_execs_cons (W_Assign_Name (W_CallMethod (W_name (W_loadLocal rfl (by rfl) fun o ho => ?_))))
  obtain rfl := er_ref ho
  refine W_getMethod G1 S0.hx S0.hdx (by rfl) (by k_is) (by k_is) (by k_is) ?_
  refine W_callWithK G1.X (by k_is) (W_items_cons (W_name (W_loadLocal rfl (by rfl) fun vn hvn => W_items_nil ?_)))
  have hvn' : er vn = er node := hvn
  refine getInfo1 (G1.le (by decide)) S0 (k := k) (by rw [hvn']; exact hk) (by omega) fun n ns1 ep1 σ₁ hn hnk S1 hp1 hkeep1 hz1 => W_storeLocal rfl ?_
  have da : a ≠ d := fun e => by rw [e, S0.hd] at ha0; cases ha0
  have ha1 := hkeep1 a _ da ha0
  -- nodeinfo.npredecessors += len(predecessors)
  refine W_execs_cons (W_AugAttr (W_name (W_loadLocal rfl (by rfl) fun o ho => ?_)))
  obtain rfl := er_ref ho
  refine W_getSlot (i := 1) G1 (S1.hn n hn).1 (S1.hn n hn).2.1 rfl (by intro u q; cases q) (by k_is) (by k_is) (by k_is) (by k_is) (by k_is) (by k_is) fun old hold => ?_
  obtain ⟨t1, rfl⟩ := er_int hold
  refine W_Call (W_name (W_loadGlobal (W_builtinName G1 (by k_is) PySem.boot_len (by decide) (W_callWithB (by intro a h; cases h) (W_items_cons (W_name (W_loadLocal rfl (by rfl) fun v hv => W_items_nil ?_)))))))
  obtain rfl := er_ref hv
  refine W_len (xs := vs.map er) (.inr ha1) (by rw [List.length_map, hvl]; exact Nat.le_trans hkz (by decide)) fun t2 => W_iadd fun t3 => ?_
  refine W_setSlot (i := 1) (xs' := [n.node, .int (n.np + (vs.map er).length), .ref n.s]) G1 (S1.hn n hn).1 (S1.hn n hn).2.1 (by show 1 ≤ 3; decide) (by decide) (by k_is) (by k_is) (by k_is) (by k_is) (by k_is) rfl ?_
  have S2 := S1.setNp hn hnk (n.np + (vs.map er).length)
  have ha2 : σ₁.set n.a (.slots 62 n.dx [n.node, .int (n.np + (vs.map er).length), .ref n.s]) a = some (.tuple (vs.map er)) := Led.set_other (S1.hn n hn).1 ha1 (by simp)
  have hp2 : (updN k (fun n' => { n' with np := n.np + (vs.map er).length }) ns1).map NI.pn = updP k (fun n => { n with np := n.np + ks.length }) (ensP k (er node) (ns.map NI.pn)) := by
    rw [← hvn', ← hp1]
    refine updN_pn ns1 fun n' hn' hk' => ?_
    obtain rfl := NI.eq_of_k S1.kn hn' hn (hk'.trans hnk.symm)
    show PN.mk _ _ _ = _
    rw [List.length_map, hvl]; rfl
  have hz2 : (updN k (fun n' => { n' with np := n.np + (vs.map er).length }) ns1).length ≤ 501 := by unfold updN; rw [List.length_map]; omega
  generalize updN k (fun n' => { n' with np := n.np + (vs.map er).length }) ns1 = ns2 at S2 hp2 hz2
  generalize σ₁.set n.a (.slots 62 n.dx [n.node, .int (n.np + (vs.map er).length), .ref n.s]) = σ₂ at S2 ha2 ⊢
  -- the loop
  refine W_execs_cons (W_For_tuple G1.ok hh rfl (W_name (W_loadLocal rfl (by rfl) fun v hv => ?_)))
  obtain rfl := er_ref hv
  refine ⟨a, vs.map er, fun i m τ => m "self" = some (.ref x) ∧ m "node" = some (er node) ∧ τ a = some (.tuple (vs.map er)) ∧ ∃ ns' ep', SC 62 159 τ x dx d ep' ns' none p f ∧ ns'.length ≤ 501 + i ∧ suB (1000 + i) (ns'.map NI.pn) ∧
    ns'.map NI.pn = (ks.take i).foldl (addStep (er node)) (updP k (fun n => { n with np := n.np + ks.length }) (ensP k (er node) (ns.map NI.pn))), rfl, ha2, ⟨by rfl, by rfl, ha2, ns2, ep1, S2, hz2, by rw [hp2]; exact suB_upd (suB_ens hsu) (Nat.le_refl _) fun n hn => hn, hp2⟩, fun i m τ hI => hI.2.2.1, fun i xv v m₁ τ hx hv hI => ?_, fun m₁ τ hI => ?_⟩
  · obtain ⟨hs, hnd, hat, ns', ep', S', hz', hsu', hp'⟩ := hI
    obtain ⟨q, hq, hq2⟩ : ∃ q, ks[i]? = some q ∧ q.2 = xv := by
      rw [‹vs.map er = ks.map (·.2)›, List.getElem?_map] at hx
      cases e : ks[i]? with
      | none => rw [e] at hx; cases hx
      | some q => rw [e] at hx; exact ⟨q, rfl, by simpa using hx⟩
    have hqin : q ∈ ks := List.mem_of_getElem? hq
    have hi : i < ks.length := (List.getElem?_eq_some_iff.mp hq).1
    refine W_assignName (W_storeLocal rfl (W_execs_cons (W_Assign_Name (W_CallMethod (W_name (W_loadLocal rfl (by exact hs) fun o ho => ?_))))))
    obtain rfl := er_ref ho
    refine W_getMethod G1 S'.hx S'.hdx (by rfl) (by k_is) (by k_is) (by k_is) ?_
    refine W_callWithK G1.X (by k_is) (W_items_cons (W_name (W_loadLocal rfl (by rfl) fun vp hvp => W_items_nil ?_)))
    have hvp' : er vp = q.2 := by rw [hvp, hv, hq2]
    refine getInfo1 (G1.le (by decide)) S' (k := q.1) (by rw [hvp']; exact hks q hqin) (by omega) fun n' ns3 ep3 σ₃ hn' hnk' S3 hp3 hkeep3 hz3 => W_storeLocal rfl ?_
    have ha3 := hkeep3 a _ da hat
    refine W_execs_cons (W_Expr (W_CallMethod (W_Attribute (W_name (W_loadLocal rfl (by rfl) fun o ho => ?_)))))
    obtain rfl := er_ref ho
    refine W_getSlot (i := 2) G1 (S3.hn n' hn').1 (S3.hn n' hn').2.1 rfl (by intro u q; cases q) (by k_is) (by k_is) (by k_is) (by k_is) (by k_is) (by k_is) fun sl hsl => ?_
    obtain rfl := er_ref hsl
    refine W_getMethod_list PySem.F.slot_list_append PySem.F.type_list_append (S3.hn n' hn').2.2 ?_
    refine W_callWithB (by intro a h; cases h) (W_items_cons (W_name (W_loadLocal rfl (by exact hnd) fun v' hv' => W_items_nil ?_)))
    have hv2 : er v' = er node := hv'
    have hsu3 : suB (1000 + i) (ns3.map NI.pn) := by rw [hp3]; exact suB_ens hsu'
    refine W_append (S3.hn n' hn').2.2 ?_ (by have := suB_mem hsu3 hn'; have : sizeLine ≥ 10000 := by decide
                                              omega)
    have S4 := S3.setSu hn' hnk' (n'.su ++ [er v'])
    have hp4 : (updN q.1 (fun n => { n with su := n'.su ++ [er v'] }) ns3).map NI.pn = (ks.take (i + 1)).foldl (addStep (er node)) (updP k (fun n => { n with np := n.np + ks.length }) (ensP k (er node) (ns.map NI.pn))) := by
      rw [take_foldl_succ hq, ← hp']
      unfold addStep
      rw [← hvp', ← hp3]
      refine updN_pn ns3 fun n2 hn2 hk2 => ?_
      obtain rfl := NI.eq_of_k S3.kn hn2 hn' (hk2.trans hnk'.symm)
      rw [hv2]; rfl
    refine W_execs_nil ⟨by exact hs, by exact hnd, Led.set_other (S3.hn n' hn').2.2 ha3 (by simp), _, ep3, S4, by unfold updN; rw [List.length_map]; omega, ?_, hp4⟩
    rw [updN_pn (g' := fun n => { n with su := n'.su ++ [er v'] }) ns3 fun _ _ _ => rfl]
    exact suB_upd hsu3 (by omega) fun n _ => by have := suB_mem hsu3 hn'; simp; omega
  · obtain ⟨hs, hnd, hat, ns', ep', S', hz', hsu', hp'⟩ := hI
    refine W_execs_nil (h ns' ep' τ S' ?_)
    rw [hp', List.length_map, hvl, List.take_length]; rfl
set_option maxRecDepth 100000 in
set_option maxHeartbeats 2000000 in
theorem tsInit {c : Cx} {E : Value → Loc → Led → Prop} {m : Loc} {σ : Led} {Q : Value → Loc → Led → Prop} {x dx : Addr} (G : Good Mine.hd.heap_1 2 c) (hx : σ x = some (.exact (instObj 159 dx))) (hd : σ dx = some (.attrs []))
    (h : ∀ d, σ d = none → Q .none m ((σ.set d (.dict [] 0)).set dx (.attrs (sattrs d none 0 0)))) : WC c (.call (.ref 95) ⟨[.ref x], []⟩) Q E m σ := by
  have hne : x ≠ dx := fun e => by rw [e, hd] at hx; cases hx
  refine WC_fnP [("self", .ref x), ("graph", .none)] G (by k_is) (by k_is) (by exact fun _ => rfl) (by rfl) fun L hL G1 => ?_
  refine W_execs_cons (W_Assign_Attribute (W_newDict fun d hd' => W_name (W_loadLocal rfl (by rfl) fun o ho => ?_)))
  obtain rfl := er_ref ho
  refine W_setAttr G1 (Led.set_old hx hd') (Led.set_old hd hd') (by decide) (by k_is) (by k_is) (by k_is) (by k_is) ?_
  have hx' : ∀ o, ((σ.set d (.dict [] 0)).set dx o) x = some (.exact (instObj 159 dx)) := fun o => (Led.set_ne hne).trans (Led.set_old hx hd')
  refine W_execs_cons (W_Assign_Attribute (W_constNone (W_name (W_loadLocal rfl (by rfl) fun o ho => ?_))))
  obtain rfl := er_ref ho
  refine W_setAttr G1 (hx' _) Led.set_self (by show 1 ≤ 900; decide) (by k_is) (by k_is) (by k_is) (by k_is) ?_
  rw [Led.set_set]
  refine W_execs_cons (W_Assign_Attribute (W_constInt fun t => W_name (W_loadLocal rfl (by rfl) fun o ho => ?_)))
  obtain rfl := er_ref ho
  refine W_setAttr G1 (hx' _) Led.set_self (by show 2 ≤ 900; decide) (by k_is) (by k_is) (by k_is) (by k_is) ?_
  rw [Led.set_set]
  refine W_execs_cons (W_Assign_Attribute (W_constInt fun t => W_name (W_loadLocal rfl (by rfl) fun o ho => ?_)))
  obtain rfl := er_ref ho
  refine W_setAttr G1 (hx' _) Led.set_self (by show 3 ≤ 900; decide) (by k_is) (by k_is) (by k_is) (by k_is) ?_
  rw [Led.set_set]
  refine W_execs_cons (W_If (W_isTrue_Compare (W_Compare (W_name (W_loadLocal rfl (by rfl) fun o ho => ?_)))))
  obtain rfl := er_none ho
  refine W_constNone (W_isNotNone (W_truthyBool (W_execs_nil (W_execs_nil ?_))))
  exact h d hd'
end Mine
end
section
namespace Mine
theorem fillD : (fun (_ : OpenLaw) (_ : Params → Frag) => True) PySem.Challenge.rw_nq0156_01 Mine.hd.heap_1 := by
  k_fill; trivial
set_option maxRecDepth 100000 in
set_option maxHeartbeats 2000000 in
theorem getReady {c : Cx} {E : Value → Loc → Led → Prop} {m : Loc} {σ : Led} {Q : Value → Loc → Led → Prop} {x dx d r : Addr} {ep : Nat} {ns : List NI} {l : List (PKey × AV)} {p f : Int} (G : Good Mine.hd.heap_1 2 c) (hh : c.A.handled = none)
    (S : SC 62 159 σ x dx d ep ns (some (r, l.map (·.2))) p f) (hz : l.length ≤ 1000) (hl : ∀ q ∈ l, q.2.key = some q.1 ∧ ∃ n ∈ ns, n.node.key = some q.1)
    (h : ∀ a ns' σ', SC 62 159 σ' x dx d ep ns' (some (r, [])) (p + l.length) f → ns'.map NI.pn = outP l (ns.map NI.pn) → σ' a = some (.tuple (l.map (·.2))) → Q (.ref a) m σ') :
    W c (call (.ref 121) [.ref x]) Q E m σ := by
  refine W_fn [("self", .ref x)] G (by k_is) (by k_is) (by rfl) (by rfl) fun L hL G1 => ?_
  have hzl : (l.map (·.2)).length ≤ sizeLine := by rw [List.length_map]; exact Nat.le_trans hz (by decide)
  refine W_execs_cons (W_If (W_isTrue_Compare (W_Compare (W_Attribute (W_name (W_loadLocal rfl (by rfl) fun o ho => ?_))))))
  obtain rfl := er_ref ho
  refine W_getAttr G1 S.hx S.hdx (by rfl) (by intro u q; cases q) (by k_is) (by k_is) (by k_is) (by k_is) fun v hv' => ?_
  obtain rfl := er_ref hv'
  refine W_constNone (W_isNone (W_truthyBool (W_execs_nil ?_)))
  -- result = tuple(self._ready_nodes)
  refine W_execs_cons (W_Assign_Name (W_Call (W_name (W_loadGlobal (W_builtinName G1 (by k_is) PyProof.Rows.boot_tuple (by decide) (W_callWithB (by intro a h; cases h) (W_items_cons (W_Attribute (W_name (W_loadLocal rfl (by rfl) fun o ho => ?_))))))))))
  obtain rfl := er_ref ho
  refine W_getAttr G1 S.hx S.hdx (by rfl) (by intro u q; cases q) (by k_is) (by k_is) (by k_is) (by k_is) fun v hv' => W_items_nil ?_
  obtain rfl := er_ref hv'
  refine W_tupleOf (S.hr r _ rfl).1 hzl fun a ha => W_storeLocal rfl ?_
  have S0 := S.mono (Led.sub_set (o := .tuple (l.map (·.2))) ha)
  have ha0 : (σ.set a (.tuple (l.map (·.2)))) a = some (.tuple (l.map (·.2))) := Led.set_self
  generalize σ.set a (.tuple (l.map (·.2))) = σ₀ at S0 ha0 ⊢
  -- n2i = self._node2info
  refine W_execs_cons (W_Assign_Name (W_Attribute (W_name (W_loadLocal rfl (by rfl) fun o ho => ?_))))
  obtain rfl := er_ref ho
  refine W_getAttr G1 S0.hx S0.hdx (by rfl) (by intro u q; cases q) (by k_is) (by k_is) (by k_is) (by k_is) fun v hv' => W_storeLocal rfl ?_
  obtain rfl := er_ref hv'
  -- the loop
  refine W_execs_cons (W_For_tuple G1.ok hh rfl (W_name (W_loadLocal rfl (by rfl) fun v hv => ?_)))
  obtain rfl := er_ref hv
  refine ⟨a, l.map (·.2), fun i m τ => m "self" = some (.ref x) ∧ m "n2i" = some (.ref d) ∧ m "result" = some (.ref a) ∧ τ a = some (.tuple (l.map (·.2))) ∧ ∃ ns', SC 62 159 τ x dx d ep ns' (some (r, l.map (·.2))) p f ∧ ns'.map (·.node.key) = ns.map (·.node.key) ∧
    ns'.map NI.pn = outP (l.take i) (ns.map NI.pn), rfl, ha0, ⟨by rfl, by rfl, by rfl, ha0, ns, S0, rfl, rfl⟩, fun i m τ hI => hI.2.2.2.1, fun i xv v m₁ τ hx hv hI => ?_, fun m₁ τ hI => ?_⟩
  · obtain ⟨hs, hn2, hre, hat, ns', S', hkk, hp'⟩ := hI
    obtain ⟨q, hq, hq2⟩ : ∃ q, l[i]? = some q ∧ q.2 = xv := by
      rw [List.getElem?_map] at hx
      cases e : l[i]? with
      | none => rw [e] at hx; cases hx
      | some q => rw [e] at hx; exact ⟨q, rfl, by simpa using hx⟩
    have hqin : q ∈ l := List.mem_of_getElem? hq
    obtain ⟨hqk, n₀, hn₀, hnk₀⟩ := hl q hqin
    obtain ⟨n, hn, hnk⟩ : ∃ n ∈ ns', n.node.key = some q.1 := by
      have : some q.1 ∈ ns'.map (·.node.key) := by rw [hkk]; exact List.mem_map.mpr ⟨n₀, hn₀, hnk₀⟩
      obtain ⟨n, a, b⟩ := List.mem_map.mp this
      exact ⟨n, a, b⟩
    refine W_assignName (W_storeLocal rfl (W_execs_cons (W_Assign_Attribute (W_name (W_loadGlobal (W_global G1 (by k_is) (W_Subscript (W_name (W_loadLocal rfl (by exact hn2) fun o ho => W_name (W_loadLocal rfl (by rfl) fun kv hkv => ?_))))))))))
    obtain rfl := er_ref ho
    refine W_itemDict S'.hd (k := q.1) (by rw [hkv, hv, ← hq2]; exact hqk) (dget_nodes_some S'.kn hn hnk) fun ov hov => ?_
    obtain rfl := er_ref hov
    refine W_setSlot (i := 1) (xs' := [n.node, .int (-1), .ref n.s]) G1 (S'.hn n hn).1 (S'.hn n hn).2.1 (by show 1 ≤ 3; decide) (by decide) (by k_is) (by k_is) (by k_is) (by k_is) (by k_is) rfl ?_
    have S2 := S'.setNp hn hnk (-1)
    refine W_execs_nil ⟨by exact hs, by exact hn2, by exact hre, Led.set_other (S'.hn n hn).1 hat (by simp), _, S2, ?_, ?_⟩
    · exact (updN_map (k := q.1) (g := fun n => { n with np := -1 }) (fun n : NI => n.node.key) (fun _ => rfl) ns').trans hkk
    · rw [show outP (l.take (i + 1)) (ns.map NI.pn) = updP q.1 (fun n => { n with np := -1 }) (outP (l.take i) (ns.map NI.pn)) from take_foldl_succ hq, ← hp']
      exact updN_pn ns' fun _ _ _ => rfl
  · obtain ⟨hs, hn2, hre, hat, ns', S', hkk, hp'⟩ := hI
    rw [List.length_map, List.take_length] at hp'
    refine W_execs_cons (W_Expr (W_CallMethod (W_Attribute (W_name (W_loadLocal rfl hs fun o ho => ?_)))))
    obtain rfl := er_ref ho
    refine W_getAttr G1 S'.hx S'.hdx (by rfl) (by intro u q; cases q) (by k_is) (by k_is) (by k_is) (by k_is) fun v hv' => ?_
    obtain rfl := er_ref hv'
    refine W_getMethod_list PySem.F.slot_list_clear PySem.F.type_list_clear (S'.hr r _ rfl).1 (W_callWithB0 (by intro a h; cases h) ?_)
    refine W_clear (S'.hr r _ rfl).1 hzl ?_
    have S3 := S'.setR (l' := [])
    have ha3 : (τ.set r (.list [])) a = some (.tuple (l.map (·.2))) := Led.set_other (S'.hr r _ rfl).1 hat (by simp)
    generalize τ.set r (.list []) = τ₃ at S3 ha3 ⊢
    refine W_execs_cons (W_AugAttr (W_name (W_loadLocal rfl hs fun o ho => ?_)))
    obtain rfl := er_ref ho
    refine W_getAttr G1 S3.hx S3.hdx (by rfl) (by intro u q; cases q) (by k_is) (by k_is) (by k_is) (by k_is) fun v hv' => ?_
    obtain ⟨t, rfl⟩ := er_int hv'
    refine W_Call (W_name (W_loadGlobal (W_builtinName G1 (by k_is) PySem.boot_len (by decide) (W_callWithB (by intro a h; cases h) (W_items_cons (W_name (W_loadLocal rfl hre fun v hv => W_items_nil ?_)))))))
    obtain rfl := er_ref hv
    refine W_len (xs := l.map (·.2)) (.inr ha3) hzl fun t2 => W_iadd fun t3 => ?_
    refine W_setAttr G1 S3.hx S3.hdx (by show 4 ≤ 900; decide) (by k_is) (by k_is) (by k_is) (by k_is) ?_
    have S4 := S3.setA (rd' := some (r, [])) (p' := p + l.length) (f' := f) S3.hr S3.dn
    have e : putA (Str.ofString "_npassedout") (er (.int (p + ((l.map (·.2)).length : Nat)) t3)) (sattrs d (some (r, [])) p f) = sattrs d (some (r, [])) (p + l.length) f := by rw [List.length_map]; rfl
    rw [e]
    refine W_execs_cons (W_Return (W_name (W_loadLocal rfl hre fun v hv => ?_)))
    obtain rfl := er_ref hv
    exact h a ns' _ S4 hp' (Led.set_other S3.hdx ha3 (by simp))
set_option maxRecDepth 100000 in
set_option maxHeartbeats 2000000 in
theorem isActive {c : Cx} {E : Value → Loc → Led → Prop} {m : Loc} {σ : Led} {Q : Value → Loc → Led → Prop} {x dx d r : Addr} {ep : Nat} {ns : List NI} {l : List AV} {p f : Int} (G : Good Mine.hd.heap_1 2 c)
    (S : SC 62 159 σ x dx d ep ns (some (r, l)) p f) (hz : l.length ≤ 1000) (h : Q (.bool (decide (f < p) || !l.isEmpty)) m σ) :
    W c (call (.ref 128) [.ref x]) Q E m σ := by
  refine W_fn [("self", .ref x)] G (by k_is) (by k_is) (by rfl) (by rfl) fun L hL G1 => ?_
  refine W_execs_cons (W_If (W_isTrue_Compare (W_Compare (W_Attribute (W_name (W_loadLocal rfl (by rfl) fun o ho => ?_))))))
  obtain rfl := er_ref ho
  refine W_getAttr G1 S.hx S.hdx (by rfl) (by intro u q; cases q) (by k_is) (by k_is) (by k_is) (by k_is) fun v hv' => ?_
  obtain rfl := er_ref hv'
  refine W_constNone (W_isNone (W_truthyBool (W_execs_nil ?_)))
  refine W_execs_cons (W_Return (W_Or2 (W_Compare (W_Attribute (W_name (W_loadLocal rfl (by rfl) fun o ho => ?_))))))
  obtain rfl := er_ref ho
  refine W_getAttr G1 S.hx S.hdx (by rfl) (by intro u q; cases q) (by k_is) (by k_is) (by k_is) (by k_is) fun v hv' => ?_
  obtain ⟨t1, rfl⟩ := er_int hv'
  refine W_Attribute (W_name (W_loadLocal rfl (by rfl) fun o ho => ?_))
  obtain rfl := er_ref ho
  refine W_getAttr G1 S.hx S.hdx (by rfl) (by intro u q; cases q) (by k_is) (by k_is) (by k_is) (by k_is) fun v hv' => ?_
  obtain ⟨t2, rfl⟩ := er_int hv'
  refine W_lt (W_truthyBool ?_)
  by_cases hlt : f < p
  · simp only [hlt, decide_true, if_true, Bool.true_or] at h ⊢
    exact h
  · simp only [hlt, decide_false, Bool.false_eq_true, if_false, Bool.false_or] at h ⊢
    refine W_Call (W_name (W_loadGlobal (W_builtinName G1 (by k_is) PyProof.Rows.boot_bool (by decide) (W_callWithB (by intro a h; cases h) (W_items_cons (W_Attribute (W_name (W_loadLocal rfl (by rfl) fun o ho => ?_))))))))
    obtain rfl := er_ref ho
    refine W_getAttr G1 S.hx S.hdx (by rfl) (by intro u q; cases q) (by k_is) (by k_is) (by k_is) (by k_is) fun v hv' => W_items_nil ?_
    obtain rfl := er_ref hv'
    exact W_boolList (S.hr r _ rfl).1 (Nat.le_trans hz (by decide)) h
end Mine
end
section
namespace Mine
theorem fillE : (fun (_ : OpenLaw) (_ : Params → Frag) => True) PySem.Challenge.rw_nq0156_01 Mine.hd.heap_1 := by
  k_fill; trivial
set_option maxRecDepth 100000 in
set_option maxHeartbeats 4000000 in
theorem done_ {c : Cx} {E : Value → Loc → Led → Prop} {m : Loc} {σ : Led} {Q : Value → Loc → Led → Prop} {x dx d r : Addr} {ep : Nat} {ns : List NI} {l l' : List AV} {p f : Int} {vs : List Value} {ks : List (PKey × AV)} {ps' : List PN} (G : Good Mine.hd.heap_1 3 c) (hh : c.A.handled = none)
    (S : SC 62 159 σ x dx d ep ns (some (r, l)) p f) (hv : vs.map er = ks.map (·.2)) (hks : ∀ q ∈ ks, q.2.key = some q.1) (hkz : ks.length ≤ 100) (hcl : Closed (ns.map NI.pn)) (hsu : suB 1000 (ns.map NI.pn)) (hlz : l.length ≤ 1000)
    (hdn : doneP (ks.map (·.1)) (ns.map NI.pn, l) = some (ps', l'))
    (h : ∀ ns' σ', SC 62 159 σ' x dx d ep ns' (some (r, l')) p (f + ks.length) → ns'.map NI.pn = ps' → Q .none m σ') :
    WC c (.call (.ref 142) ⟨.ref x :: vs, []⟩) Q E m σ := by
  have hvl : vs.length = ks.length := by have := congrArg List.length hv; simpa using this
  refine WC_fnV [("self", .ref x)] "nodes" vs G (by k_is) (by k_is) (by cases vs <;> rfl) (by rfl) (by rfl) (by rw [hvl]; exact Nat.le_trans hkz (by decide)) fun L a ha hL G1 => ?_
  have S0 := S.mono (Led.sub_set (o := .tuple (vs.map er)) ha)
  have ha0 : (σ.set a (.tuple (vs.map er))) a = some (.tuple (vs.map er)) := Led.set_self
  generalize σ.set a (.tuple (vs.map er)) = σ₀ at S0 ha0 ⊢
  refine W_execs_cons (W_If (W_isTrue_Compare (W_Compare (W_Attribute (W_name (W_loadLocal rfl (by rfl) fun o ho => ?_))))))
  obtain rfl := er_ref ho
  refine W_getAttr G1 S0.hx S0.hdx (by rfl) (by intro u q; cases q) (by k_is) (by k_is) (by k_is) (by k_is) fun v hv' => ?_
  obtain rfl := er_ref hv'
  refine W_constNone (W_isNone (W_truthyBool (W_execs_nil ?_)))
  refine W_execs_cons (W_Assign_Name (W_Attribute (W_name (W_loadLocal rfl (by rfl) fun o ho => ?_))))
  obtain rfl := er_ref ho
  refine W_getAttr G1 S0.hx S0.hdx (by rfl) (by intro u q; cases q) (by k_is) (by k_is) (by k_is) (by k_is) fun v hv' => W_storeLocal rfl ?_
  obtain rfl := er_ref hv'
  refine W_execs_cons (W_For_tuple G1.ok hh rfl (W_name (W_loadLocal rfl (by rfl) fun v hv => ?_)))
  obtain rfl := er_ref hv
  refine ⟨a, vs.map er, fun i m τ => m "self" = some (.ref x) ∧ m "n2i" = some (.ref d) ∧ τ a = some (.tuple (vs.map er)) ∧ ∃ ns' li, SC 62 159 τ x dx d ep ns' (some (r, li)) p (f + i) ∧ Closed (ns'.map NI.pn) ∧ suB 1000 (ns'.map NI.pn) ∧ li.length ≤ 1000 + 1000 * i ∧
    doneP ((ks.drop i).map (·.1)) (ns'.map NI.pn, li) = some (ps', l'), rfl, ha0, ⟨by rfl, by rfl, ha0, ns, l, by simpa using S0, hcl, hsu, hlz, hdn⟩, fun i m τ hI => hI.2.2.1, fun i xv v m₁ τ hx hv hI => ?_, fun m₁ τ hI => ?_⟩
  · obtain ⟨hs, hn2, hat, ns', li, S', hcl', hsu', hlz', hdn'⟩ := hI
    obtain ⟨q, hq, hq2⟩ : ∃ q, ks[i]? = some q ∧ q.2 = xv := by
      rw [‹vs.map er = ks.map (·.2)›, List.getElem?_map] at hx
      cases e : ks[i]? with
      | none => rw [e] at hx; cases hx
      | some q => rw [e] at hx; exact ⟨q, rfl, by simpa using hx⟩
    have hqin : q ∈ ks := List.mem_of_getElem? hq
    have hi : i < ks.length := (List.getElem?_eq_some_iff.mp hq).1
    have hqk := hks q hqin
    have edrop : ks.drop i = q :: ks.drop (i + 1) := by rw [List.drop_eq_getElem_cons hi, (List.getElem?_eq_some_iff.mp hq).2]
    rw [edrop, List.map_cons] at hdn'
    unfold doneP at hdn'
    split at hdn'
    case isFalse => cases hdn'
    case isTrue hnp =>
    obtain ⟨n, hn, hnk⟩ : ∃ n ∈ ns', n.node.key = some q.1 := by
      cases e : pOf q.1 (ns'.map NI.pn) with
      | none => unfold npOf at hnp; rw [e] at hnp; simp at hnp
      | some pn =>
        unfold pOf at e
        have h1 := List.mem_of_find?_eq_some e
        have h2 := List.find?_some e
        obtain ⟨n, hn, rfl⟩ := List.mem_map.mp h1
        exact ⟨n, hn, of_decide_eq_true h2⟩
    have hpo := pOf_map S'.kn hn hnk
    have hnp1 : n.np = -1 := by unfold npOf at hnp; rw [hpo] at hnp; exact hnp
    have hsuo : suOf q.1 (ns'.map NI.pn) = n.su := by unfold suOf; rw [hpo]; rfl
    have hslen : n.su.length ≤ 1000 := suB_mem hsu' hn
    refine W_assignName (W_storeLocal rfl ?_)
    -- nodeinfo := n2i.get(node)
    refine W_execs_cons (W_If (W_isTrue_Compare (W_Compare (W_NamedExpr (W_CallMethod (W_name (W_loadLocal rfl (by exact hn2) fun o ho => ?_)))))))
    obtain rfl := er_ref ho
    refine W_getMethod_dict PySem.F.slot_dict_get PySem.F.type_dict_get S'.hd ?_
    refine W_callWithB (by intro a h; cases h) (W_items_cons (W_name (W_loadLocal rfl (by rfl) fun kv hkv => W_items_nil ?_)))
    refine W_dictGet G1 S'.hd (k := q.1) (by rw [hkv, hv, ← hq2]; exact hqk) fun rv hr => ?_
    rw [dget_nodes_some S'.kn hn hnk] at hr
    obtain rfl := er_ref hr
    refine W_assignName (W_storeLocal rfl (W_constNone (W_isNone (W_truthyBool (W_execs_nil ?_)))))
    -- stat
    refine W_execs_cons (W_Assign_Name (W_Attribute (W_name (W_loadLocal rfl (by rfl) fun o ho => ?_))))
    obtain rfl := er_ref ho
    refine W_getSlot (i := 1) G1 (S'.hn n hn).1 (S'.hn n hn).2.1 rfl (by intro u q; cases q) (by k_is) (by k_is) (by k_is) (by k_is) (by k_is) (by k_is) fun sv hsv => W_storeLocal rfl ?_
    obtain ⟨ts, rfl⟩ := er_int hsv
    refine W_execs_cons (W_If (W_isTrue_Compare (W_Compare (W_name (W_loadLocal rfl (by rfl) fun s1 hs1 => W_name (W_loadGlobal (W_global G1 (by k_is) ?_)))))))
    obtain ⟨ts', rfl⟩ := er_int hs1
    refine W_neInt (W_truthyBool ?_)
    rw [hnp1]
    refine W_execs_nil ?_
    -- nodeinfo.npredecessors = _NODE_DONE
    refine W_execs_cons (W_Assign_Attribute (W_name (W_loadGlobal (W_global G1 (by k_is) (W_name (W_loadLocal rfl (by rfl) fun o ho => ?_))))))
    obtain rfl := er_ref ho
    refine W_setSlot (i := 1) (xs' := [n.node, .int (-2), .ref n.s]) G1 (S'.hn n hn).1 (S'.hn n hn).2.1 (by show 1 ≤ 3; decide) (by decide) (by k_is) (by k_is) (by k_is) (by k_is) (by k_is) rfl ?_
    have S2 := S'.setNp hn hnk (-2)
    have ha2 : τ.set n.a (.slots 62 n.dx [n.node, .int (-2), .ref n.s]) a = some (.tuple (vs.map er)) := Led.set_other (S'.hn n hn).1 hat (by simp)
    have hp2 : (updN q.1 (fun n' => { n' with np := -2 }) ns').map NI.pn = updP q.1 (fun n => { n with np := -2 }) (ns'.map NI.pn) := updN_pn ns' fun _ _ _ => rfl
    have hsh2 : (updN q.1 (fun n' => { n' with np := -2 }) ns').map NI.sh = ns'.map NI.sh := updN_map (k := q.1) (g := fun n => { n with np := -2 }) NI.sh (fun _ => rfl) ns'
    generalize updN q.1 (fun n' => { n' with np := -2 }) ns' = ns2 at S2 hp2 hsh2
    generalize τ.set n.a (.slots 62 n.dx [n.node, .int (-2), .ref n.s]) = τ₂ at S2 ha2 ⊢
    obtain ⟨n2, hn2', e1, e2, e3, e4, e5⟩ := sh_mem hsh2 hn
    -- the inner loop
    refine W_execs_cons (W_For_list G1.ok hh rfl (W_Attribute (W_name (W_loadLocal rfl (by rfl) fun o ho => ?_))))
    obtain rfl := er_ref ho
    refine W_getSlot (i := 2) (xs := [n2.node, .int n2.np, .ref n2.s]) (dx := n2.dx) G1 (by rw [← e2]; exact (S2.hn n2 hn2').1) (S2.hn n2 hn2').2.1 rfl (by intro u q; cases q) (by k_is) (by k_is) (by k_is) (by k_is) (by k_is) (by k_is) fun lv hlv => ?_
    obtain rfl := er_ref hlv
    refine ⟨n2.s, n.su, fun j m τ => m "self" = some (.ref x) ∧ m "n2i" = some (.ref d) ∧ τ a = some (.tuple (vs.map er)) ∧ ∃ ns3 lj, SC 62 159 τ x dx d ep ns3 (some (r, lj)) p (f + i) ∧ ns3.map NI.sh = ns'.map NI.sh ∧ lj.length ≤ 1000 + 1000 * i + j ∧
      (ns3.map NI.pn, lj) = ((n.su.take j).map kp).foldl sucStep (updP q.1 (fun n => { n with np := -2 }) (ns'.map NI.pn), li), rfl, ?_, ⟨by exact hs, by exact hn2, ha2, ns2, li, S2, hsh2, by omega, by rw [hp2]; rfl⟩, fun j m τ hI => ?_, fun j sv w m₂ τ₃ hx hw hI => ?_, fun m₂ τ₃ hI => ?_⟩
    · rw [← e5]; exact (S2.hn n2 hn2').2.2
    · obtain ⟨_, _, _, ns3, lj, S3, hsh3, _, _⟩ := hI
      obtain ⟨n3, hn3, f1, f2, f3, f4, f5⟩ := sh_mem hsh3 hn
      rw [e4, ← f4, ← f5]; exact (S3.hn n3 hn3).2.2
    · obtain ⟨hs3, hn23, ha3, ns3, lj, S3, hsh3, hlj, hst⟩ := hI
      have hsin : sv ∈ n.su := List.mem_of_getElem? hx
      obtain ⟨ksv, hksv, n₄, hn₄, hnk₄⟩ := hcl' n.pn (List.mem_map.mpr ⟨n, hn, rfl⟩) sv hsin
      obtain ⟨n₅, hn₅, rfl⟩ := List.mem_map.mp hn₄
      obtain ⟨n6, hn6, g1, g2, g3, g4, g5⟩ := sh_mem hsh3 hn₅
      have hnk6 : n6.node.key = some ksv := by rw [g1]; exact hnk₄
      refine W_assignName (W_storeLocal rfl ?_)
      refine W_execs_cons (W_Assign_Name (W_Subscript (W_name (W_loadLocal rfl (by exact hn23) fun o ho => W_name (W_loadLocal rfl (by rfl) fun kv hkv => ?_)))))
      obtain rfl := er_ref ho
      have hkvs : er kv = sv := by rw [hkv, hw]
      refine W_itemDict S3.hd (k := ksv) (by rw [hkvs]; exact hksv) (dget_nodes_some S3.kn hn6 hnk6) fun ov hov => W_storeLocal rfl ?_
      obtain rfl := er_ref hov
      refine W_execs_cons (W_AugAttr (W_name (W_loadLocal rfl (by rfl) fun o ho => ?_)))
      obtain rfl := er_ref ho
      refine W_getSlot (i := 1) G1 (S3.hn n6 hn6).1 (S3.hn n6 hn6).2.1 rfl (by intro u q; cases q) (by k_is) (by k_is) (by k_is) (by k_is) (by k_is) (by k_is) fun old hold => ?_
      obtain ⟨t1, rfl⟩ := er_int hold
      refine W_constInt fun t2 => W_isub fun t3 => ?_
      refine W_setSlot (i := 1) (xs' := [n6.node, .int (n6.np - 1), .ref n6.s]) G1 (S3.hn n6 hn6).1 (S3.hn n6 hn6).2.1 (by show 1 ≤ 3; decide) (by decide) (by k_is) (by k_is) (by k_is) (by k_is) (by k_is) rfl ?_
      have S4 := S3.setNp hn6 hnk6 (n6.np - 1)
      have ha4 : τ₃.set n6.a (.slots 62 n6.dx [n6.node, .int (n6.np - 1), .ref n6.s]) a = some (.tuple (vs.map er)) := Led.set_other (S3.hn n6 hn6).1 ha3 (by simp)
      have hp4 : (updN ksv (fun n' => { n' with np := n6.np - 1 }) ns3).map NI.pn = updP ksv (fun n => { n with np := n.np - 1 }) (ns3.map NI.pn) := updN_pn ns3 fun n' hn' hk' => by
        obtain rfl := NI.eq_of_k S3.kn hn' hn6 (hk'.trans hnk6.symm)
        rfl
      have hsh4 : (updN ksv (fun n' => { n' with np := n6.np - 1 }) ns3).map NI.sh = ns'.map NI.sh := (updN_map (k := ksv) (g := fun n => { n with np := n6.np - 1 }) NI.sh (fun _ => rfl) ns3).trans hsh3
      have hl4 : τ₃.set n6.a (.slots 62 n6.dx [n6.node, .int (n6.np - 1), .ref n6.s]) n6.a = some (.slots 62 n6.dx [n6.node, .int (n6.np - 1), .ref n6.s]) := Led.set_self
      have hd4 : τ₃.set n6.a (.slots 62 n6.dx [n6.node, .int (n6.np - 1), .ref n6.s]) n6.dx = some (.attrs []) := Led.set_other (S3.hn n6 hn6).1 (S3.hn n6 hn6).2.1 (by simp)
      generalize updN ksv (fun n' => { n' with np := n6.np - 1 }) ns3 = ns4 at S4 hp4 hsh4
      generalize τ₃.set n6.a (.slots 62 n6.dx [n6.node, .int (n6.np - 1), .ref n6.s]) = τ₄ at S4 ha4 hl4 hd4 ⊢
      have hkp : kp sv = (ksv, sv) := by unfold kp; rw [hksv]; rfl
      have hnp6 : npOf ksv (ns3.map NI.pn) = n6.np := by unfold npOf; rw [pOf_map S3.kn hn6 hnk6]; rfl
      have hst' : ((n.su.take (j + 1)).map kp).foldl sucStep (updP q.1 (fun n => { n with np := -2 }) (ns'.map NI.pn), li) = (ns4.map NI.pn, if n6.np = 1 then lj ++ [sv] else lj) := by
        rw [List.take_add_one, hx]
        simp only [Option.toList, List.map_append, List.map_cons, List.map_nil, List.foldl_append, List.foldl_cons, List.foldl_nil]
        rw [← hst, hkp]
        unfold sucStep
        dsimp only
        rw [hp4, hnp6]
      refine W_execs_cons (W_If (W_isTrue_Compare (W_Compare (W_Attribute (W_name (W_loadLocal rfl (by rfl) fun o ho => ?_))))))
      obtain rfl := er_ref ho
      refine W_getSlot (i := 1) G1 hl4 hd4 rfl (by intro u q; cases q) (by k_is) (by k_is) (by k_is) (by k_is) (by k_is) (by k_is) fun cv hcv => ?_
      obtain ⟨t4, rfl⟩ := er_int hcv
      refine W_constInt fun t5 => W_eqInt (W_truthyBool ?_)
      by_cases h1 : n6.np = 1
      · rw [if_pos h1] at hst'
        have : (n6.np - 1 == 0) = true := by rw [h1]; rfl
        rw [this]
        refine W_execs_cons (W_Expr (W_CallMethod (W_Attribute (W_name (W_loadLocal rfl (by exact hs3) fun o ho => ?_)))))
        obtain rfl := er_ref ho
        refine W_getAttr G1 S4.hx S4.hdx (by rfl) (by intro u q; cases q) (by k_is) (by k_is) (by k_is) (by k_is) fun v hv' => ?_
        obtain rfl := er_ref hv'
        refine W_getMethod_list PySem.F.slot_list_append PySem.F.type_list_append (S4.hr r _ rfl).1 ?_
        refine W_callWithB (by intro a h; cases h) (W_items_cons (W_name (W_loadLocal rfl (by rfl) fun v' hv' => W_items_nil ?_)))
        have hv2 : er v' = sv := by rw [hv', hw]
        refine W_append (S4.hr r _ rfl).1 ?_ (by have : sizeLine = 2 ^ 24 := rfl
                                                 have : j < n.su.length := (List.getElem?_eq_some_iff.mp hx).1
                                                 omega)
        rw [hv2]
        refine W_execs_nil (W_execs_nil ⟨by exact hs3, by exact hn23, Led.set_other (S4.hr r _ rfl).1 ha4 (by simp), ns4, lj ++ [sv], S4.setR, hsh4, by simp; omega, hst'.symm⟩)
      · rw [if_neg h1] at hst'
        have : (n6.np - 1 == 0) = false := beq_eq_false_iff_ne.mpr (by omega)
        rw [this]
        exact W_execs_nil (W_execs_nil ⟨by exact hs3, by exact hn23, ha4, ns4, lj, S4, hsh4, by omega, hst'.symm⟩)
    · obtain ⟨hs3, hn23, ha3, ns3, lj, S3, hsh3, hlj, hst⟩ := hI
      rw [List.take_length] at hst
      have hstep : (ns3.map NI.pn, lj) = doneStep (ns'.map NI.pn, li) q.1 := by rw [hst]; unfold doneStep; rw [hsuo]
      have hfst : ns3.map NI.pn = (doneStep (ns'.map NI.pn, li) q.1).1 := congrArg Prod.fst hstep
      have hsnd : lj = (doneStep (ns'.map NI.pn, li) q.1).2 := congrArg Prod.snd hstep
      refine W_execs_cons (W_AugAttr (W_name (W_loadLocal rfl (by exact hs3) fun o ho => ?_)))
      obtain rfl := er_ref ho
      refine W_getAttr G1 S3.hx S3.hdx (by rfl) (by intro u q; cases q) (by k_is) (by k_is) (by k_is) (by k_is) fun v hv' => ?_
      obtain ⟨t, rfl⟩ := er_int hv'
      refine W_constInt fun t2 => W_iadd fun t3 => ?_
      refine W_setAttr G1 S3.hx S3.hdx (by show 4 ≤ 900; decide) (by k_is) (by k_is) (by k_is) (by k_is) ?_
      have S4 := S3.setA (rd' := some (r, lj)) (p' := p) (f' := f + i + 1) S3.hr S3.dn
      have e : putA (Str.ofString "_nfinished") (er (.int (f + i + 1) t3)) (sattrs d (some (r, lj)) p (f + i)) = sattrs d (some (r, lj)) p (f + i + 1) := rfl
      rw [e]
      have e' : f + (i : Int) + 1 = f + ((i + 1 : Nat) : Int) := by omega
      rw [e'] at S4 ⊢
      refine W_execs_nil ⟨by exact hs3, by exact hn23, Led.set_other S3.hdx ha3 (by simp), ns3, lj, S4, ?_, ?_, ?_, ?_⟩
      · rw [hfst]; exact doneStep_closed hcl'
      · rw [hfst]; exact doneStep_su hsu'
      · rw [hsnd]
        have := doneStep_len (st := (ns'.map NI.pn, li)) (k := q.1) hsu'
        dsimp only at this
        omega
      · rw [hstep]; exact hdn'
  · obtain ⟨hs, hn2, hat, ns', li, S', hcl', hsu', hlz', hdn'⟩ := hI
    rw [List.length_map, hvl] at S' hdn'
    rw [List.drop_length] at hdn'
    have e : (ns'.map NI.pn, li) = (ps', l') := Option.some.inj hdn'
    obtain ⟨e1, rfl⟩ := Prod.mk.inj e
    exact W_execs_nil (h ns' τ S' e1)
end Mine
end
section
namespace Mine
theorem fillF : (fun (_ : OpenLaw) (_ : Params → Frag) => True) PySem.Challenge.rw_nq0156_01 Mine.hd.heap_1 := by
  k_fill; trivial
set_option maxRecDepth 100000 in
set_option maxHeartbeats 4000000 in
theorem findCycle {c : Cx} {E : Value → Loc → Led → Prop} {m : Loc} {σ : Led} {Q : Value → Loc → Led → Prop} {x dx d : Addr} {ep : Nat} {ns : List NI} {rd : Option (Addr × List AV)} {p f : Int} (G : Good Mine.hd.heap_1 3 c) (hh : c.A.handled = none)
    (S : SC 62 159 σ x dx d ep ns rd p f) (hz : ns.length ≤ 500) (hcl : Closed (ns.map NI.pn)) (hsu : suB 1000 (ns.map NI.pn))
    (h1 : RunAll (fun k => suOf k (ns.map NI.pn)) (ns.map NI.node) (fun _ => false) none → Q .none m σ)
    (h2 : ∀ l a, RunAll (fun k => suOf k (ns.map NI.pn)) (ns.map NI.node) (fun _ => false) (some l) → l.length ≤ 1000 → l ≠ [] → σ a = none → Q (.ref a) m (σ.set a (.list l))) :
    W c (call (.ref 149) [.ref x]) Q E m σ := by
  generalize hsuf : (fun k => suOf k (ns.map NI.pn)) = su at h1 h2
  refine W_weaken (Q' := FEnd (RunAll su (ns.map NI.node) fun _ => false) σ m) (E' := fun _ _ _ => False) ?_
    (fun v m' σ' hfe => ?_) (fun _ _ _ x => x.elim)
  rotate_left
  · obtain ⟨e1, e2, e3⟩ := hfe
    subst e1
    rcases e3 with ⟨rfl, hr⟩ | ⟨l, a, rfl, ha, hn, hr, hlz, hlne⟩
    · exact ⟨σ, e2, h1 hr⟩
    · refine ⟨σ.set a (.list l), fun b o e => ?_, h2 l a hr hlz hlne hn⟩
      by_cases q : b = a
      · subst q; rw [Led.set_self] at e; rw [ha]; exact e
      · rw [Led.set_ne q] at e; exact e2 b o e
  refine W_fn [("self", .ref x)] G (by k_is) (by k_is) (by rfl) (by rfl) fun L hL G1 => ?_
  refine W_execs_cons (W_Assign_Name (W_Attribute (W_name (W_loadLocal rfl (by rfl) fun o ho => ?_))))
  obtain rfl := er_ref ho
  refine W_getAttr G1 S.hx S.hdx (by rfl) (by intro u q; cases q) (by k_is) (by k_is) (by k_is) (by k_is) fun v hv' => W_storeLocal rfl ?_
  obtain rfl := er_ref hv'
  refine W_execs_cons (W_Assign_Name (W_List (W_items_nil (W_newList fun sl hsl => W_storeLocal rfl ?_))))
  refine W_execs_cons (W_Assign_Name (W_List (W_items_nil (W_newList fun il hil => W_storeLocal rfl ?_))))
  refine W_execs_cons (W_Assign_Name (W_Call (W_name (W_loadGlobal (W_builtinName G1 (by k_is) PyProof.Rows.Boot.«set» (by decide) (W_callWithB0 (by intro a h; cases h) (W_newSet fun se hse => W_storeLocal rfl ?_)))))))
  refine W_execs_cons (W_Assign_Name (W_newDict fun nd hnd => W_storeLocal rfl ?_))
  have nil_ : il ≠ sl := fun e => by rw [e, Led.set_self] at hil; cases hil
  have nse1 : se ≠ il := fun e => by rw [e, Led.set_self] at hse; cases hse
  rw [Led.set_ne nse1] at hse
  have nse2 : se ≠ sl := fun e => by rw [e, Led.set_self] at hse; cases hse
  have nnd1 : nd ≠ se := fun e => by rw [e, Led.set_self] at hnd; cases hnd
  rw [Led.set_ne nnd1] at hnd
  have nnd2 : nd ≠ il := fun e => by rw [e, Led.set_self] at hnd; cases hnd
  rw [Led.set_ne nnd2] at hnd
  have nnd3 : nd ≠ sl := fun e => by rw [e, Led.set_self] at hnd; cases hnd
  rw [Led.set_ne nnd3] at hnd
  rw [Led.set_ne nse2] at hse
  rw [Led.set_ne nil_] at hil
  have F0 : FCI σ ((((σ.set sl (.list (List.map er []))).set il (.list (List.map er []))).set se (.set (fun _ => false) 0)).set nd (.dict [] 0)) sl il se nd [] (fun _ => false) 0 := by
    refine ⟨fun b o e => ?_, ?_, ?_, ?_, ⟨[], 0, Led.set_self, fun _ => rfl, by decide⟩, fun x hx => (nomatch hx), List.nodup_nil, hsl, hil, hse, hnd, Ne.symm nil_, List.nodup_nil, fun x hx => (nomatch hx)⟩
    · rw [Led.set_ne (ne_of_led e hnd), Led.set_ne (ne_of_led e hse), Led.set_ne (ne_of_led e hil), Led.set_ne (ne_of_led e hsl)]; exact e
    · rw [Led.set_ne (Ne.symm nnd3), Led.set_ne (Ne.symm nse2), Led.set_ne (Ne.symm nil_)]; exact Led.set_self
    · rw [Led.set_ne (Ne.symm nnd2), Led.set_ne (Ne.symm nse1)]; exact Led.set_self
    · rw [Led.set_ne (Ne.symm nnd1)]; exact Led.set_self
  generalize ((((σ.set sl (.list (List.map er []))).set il (.list (List.map er []))).set se (.set (fun _ => false) 0)).set nd (.dict [] 0)) = τ₀ at F0 ⊢
  -- the outer loop
  refine W_execs_cons (W_For_dict G1 hh rfl (W_name (W_loadLocal rfl (by rfl) fun v hv => ?_)))
  obtain rfl := er_ref hv
  refine ⟨d, ns.map (fun n => (n.node, AV.ref n.a)), ep, FOut su ns σ d sl il se nd, rfl, F0.keep _ _ S.hd, ⟨⟨by rfl, by rfl, by rfl, by rfl, by rfl⟩, _, 0, F0, by unfold unsC; rw [Nat.zero_add]; exact List.length_filter_le .., fun o h => h⟩,
    fun i m τ hI => ?_, fun i xe v m₁ τ hx hv hI => ?_, fun m₁ τ hI => ?_⟩
  · obtain ⟨_, Sn, j, F, _⟩ := hI
    exact F.keep _ _ S.hd
  · obtain ⟨⟨hm1, hm2, hm3, hm4, hm5⟩, Sn, j, F, hc, hr⟩ := hI
    obtain ⟨n, hn0, rfl⟩ : ∃ n, ns[i]? = some n ∧ (n.node, AV.ref n.a) = xe := by
      rw [List.getElem?_map] at hx
      cases e : ns[i]? with
      | none => rw [e] at hx; cases hx
      | some n => rw [e] at hx; exact ⟨n, rfl, by simpa using hx⟩
    have hn : n ∈ ns := List.mem_of_getElem? hn0
    have hi : i < ns.length := (List.getElem?_eq_some_iff.mp hn0).1
    have edrop : (ns.map NI.node).drop i = n.node :: (ns.map NI.node).drop (i + 1) := by
      rw [List.drop_eq_getElem_cons (by rw [List.length_map]; exact hi)]
      congr 1
      rw [List.getElem_map, (List.getElem?_eq_some_iff.mp hn0).2]
    obtain ⟨k, hk⟩ := S.ks n hn
    have hvk : (er v).key = some k := by rw [hv]; exact hk
    refine W_assignName (W_storeLocal rfl ?_)
    refine W_execs_cons (W_If (W_isTrue_Compare (W_Compare (W_name (W_loadLocal rfl (by rfl) fun v' hv' => W_name (W_loadLocal rfl (by exact hm4) fun u hu => ?_))))))
    obtain rfl := er_ref hu
    refine W_inSet F.hse (k := k) (by rw [hv']; exact hvk) (W_truthyBool ?_)
    cases hb : Sn k with
    | true =>
      refine W_execs_cons (W_Continue ⟨⟨by exact hm1, by exact hm2, by exact hm3, by exact hm4, by exact hm5⟩, Sn, j, F, hc, fun o ho => hr o ?_⟩)
      rw [edrop]; exact .skip hk hb ho
    | false =>
      refine W_execs_nil (W_execs_cons ?_)
      refine W_While G1.ok rfl (FIn su ns σ d sl il se nd n.node Sn) (unsW Sn ns + stW []) ⟨⟨by exact hm1, by exact hm2, by exact hm3, by exact hm4, by exact hm5⟩, er v, k, [], Sn, j, by rfl, hvk, ⟨n, hn, hk⟩, F, hc, rfl, fun x hx => (nomatch hx), Nat.zero_le _, fun r hr => by rw [hv] at hr; exact hr⟩ ?_
      rintro nW m₂ τ₂ ⟨⟨hm1, hm2, hm3, hm4, hm5⟩, av, kv, st, S', j', hma, hak, ⟨nv, hnv, hnvk⟩, F, hc, rfl, hent, hstj, hrun⟩
      refine W_isTrue (W_constBool (W_truthyBool ?_))
      simp only [if_true]
      refine W_execs_cons (W_mono (Q := FlowPost (Inn su ns σ d sl il se nd n.node Sn (unsW S' ns + stW st)) (fun _ _ => False) (RetOK σ (fun l => RunAll su (ns.map NI.node) (fun _ => false) (some l) ∧ l.length ≤ 1000 ∧ l ≠ []))) (E := fun _ _ _ => False) ?_ (fun fl m₃ τ₃ hfl => ?_) (fun _ _ _ x => x.elim))
      · -- if node in seen
        refine W_If (W_isTrue_Compare (W_Compare (W_name (W_loadLocal rfl (by exact hma) fun v' hv' => W_name (W_loadLocal rfl (by exact hm4) fun u hu => ?_)))))
        obtain rfl := er_ref hu
        refine W_inSet F.hse (k := kv) (by rw [hv']; exact hak) (W_truthyBool ?_)
        cases hsk : S' kv with
        | true =>
          obtain ⟨es, epd, hnd1, hnd2, hnd3⟩ := F.hnd
          refine W_execs_cons (W_If (W_isTrue_Compare (W_Compare (W_name (W_loadLocal rfl (by exact hma) fun v' hv' => W_name (W_loadLocal rfl (by exact hm5) fun u hu => ?_))))))
          obtain rfl := er_ref hu
          refine W_inDict G1 hnd1 (k := kv) (by rw [hv']; exact hak) (W_truthyBool ?_)
          cases hix : dget es kv with
          | some iv =>
            have hid : idxS kv st = some iv := by rw [← hnd2, hix]
            obtain ⟨ix, hix1, hix2⟩ : ∃ ix : Nat, iv = .int ix ∧ ix ≤ st.length := by
              unfold idxS at hid
              obtain ⟨ix, a, b⟩ := Option.map_eq_some_iff.mp hid
              exact ⟨ix, b.symm, Nat.le_of_lt (List.findIdx?_eq_some_iff_getElem.mp a).1⟩
            subst hix1
            have hon : onS kv (tops st) = true := by rw [onS_tops, hid]; rfl
            have hzst : (st.map (·.node)).length ≤ 500 := by rw [List.length_map]; omega
            refine W_execs_cons (W_Return (W_BinOp (W_slice (W_name (W_loadLocal rfl (by exact hm2) fun ov hov => W_Subscript (W_name (W_loadLocal rfl (by exact hm5) fun dv hdv => W_name (W_loadLocal rfl (by exact hma) fun kv' hkv' => ?_))))))))
            obtain rfl := er_ref hov
            obtain rfl := er_ref hdv
            refine W_itemDict hnd1 (k := kv) (by rw [hkv']; exact hak) hix fun iv' hiv' => ?_
            obtain ⟨ti, rfl⟩ := er_int hiv'
            refine W_evalNone ⟨sl, st.map (·.node), some ix, none, rfl, .inl F.hsl, .int _ _, .none, Nat.le_trans hzst (by decide), fun a ha => ?_⟩
            rw [pickA_from (by rw [List.length_map]; exact hix2)]
            refine W_List (W_items_cons (W_name (W_loadLocal rfl (by exact hma) fun nv hnv' => W_items_nil (W_newList fun b hb' => ?_))))
            have hba : b ≠ a := fun e => by rw [e, Led.set_self] at hb'; cases hb'
            have hyb : ((τ₂.set a (.list ((st.map (·.node)).drop ix))).set b (.list (List.map er [nv]))) b = some (.list [av]) := by rw [Led.set_self, List.map_cons, List.map_nil, hnv']
            have hlz : ((st.map (·.node)).drop ix).length + [av].length ≤ sizeLine := by
              have : sizeLine = 2 ^ 24 := rfl
              rw [List.length_drop, List.length_singleton]; omega
            refine W_concat (xs := (st.map (·.node)).drop ix) (ys := [av]) ((Led.set_ne (Ne.symm hba)).trans Led.set_self) hyb hlz fun r hr' => ?_
            have fresh : ∀ b o, σ b = some o → b ≠ r := fun b' o e q => by
              have := F.keep b' o e
              have h1 : (τ₂.set a (.list ((st.map (·.node)).drop ix))) b' = some o := Led.set_old this ha
              have h2 := Led.set_old (o := AO.list (List.map er [nv])) h1 hb'
              rw [q, hr'] at h2; cases h2
            refine ⟨fun b' o e => ?_, _, r, rfl, Led.set_self, ?_, ?_⟩
            · rw [Led.set_ne (fresh b' o e)]
              exact Led.set_old (Led.set_old (F.keep b' o e) ha) hb'
            · cases q : σ r with
              | none => rfl
              | some o => exact (fresh r o q rfl).elim
            · refine ⟨hr _ ?_, by rw [List.length_append, List.length_drop, List.length_singleton]; omega, by simp⟩
              rw [edrop]
              refine .ring hk hb (hrun _ ?_)
              rw [← ring_tops hid]
              exact .ring hak hsk hon
          | none =>
            have hon : onS kv (tops st) = false := by rw [onS_tops, ← hnd2, hix]; rfl
            exact W_execs_nil (W_execs_nil ⟨⟨hm1, hm2, hm3, hm4, hm5⟩, st, S', j', F, hc, Nat.le_refl _, hent, hstj, fun v' st'' hp r hr' => hrun r (.oldNext hak hsk hon hp hr'), fun hp => hrun _ (.oldEnd hak hsk hon hp)⟩)
        | false =>
          have hj1 : j' + 1 + unsC (seenAdd S' kv) ns ≤ ns.length := by have := (unsW_add hnv hnvk hsk).2; omega
          have hsuk : su kv = nv.su := by rw [← hsuf]; show suOf kv (ns.map NI.pn) = nv.su; unfold suOf; rw [pOf_map S.kn hnv hnvk]; rfl
          -- seen.add(node)
          refine W_execs_cons (W_Expr (W_CallMethod (W_name (W_loadLocal rfl (by exact hm4) fun o ho => ?_))))
          obtain rfl := er_ref ho
          refine W_getMethod_setAdd F.hse ?_
          refine W_callWithB (by intro a h; cases h) (W_items_cons (W_name (W_loadLocal rfl (by exact hma) fun kx hkx => W_items_nil ?_)))
          refine W_setAdd F.hse (k := kv) (by rw [hkx]; exact hak) (by omega) ?_
          rw [hsk, if_neg Bool.false_ne_true]
          have nse : ∀ {b o}, τ₂ b = some o → (∀ X Y, o ≠ .set X Y) → (τ₂.set se (.set (fun k' => S' k' || decide (k' = kv)) (j' + 1))) b = some o := fun e q => Led.set_other F.hse e fun r => q _ _ r.symm
          -- itstack.append(iter(n2i[node].successors).__next__)
          refine W_execs_cons (W_Expr (W_CallMethod (W_name (W_loadLocal rfl (by exact hm3) fun o ho => ?_))))
          obtain rfl := er_ref ho
          refine W_getMethod_list PySem.F.slot_list_append PySem.F.type_list_append (nse F.hil (by simp)) ?_
          refine W_callWithB (by intro a h; cases h) (W_items_cons (W_Attribute (W_Call (W_name (W_loadGlobal (W_builtinName G1 (by k_is) PyProof.Rows.boot_iter (by decide) (W_callWithB (by intro a h; cases h) (W_items_cons (W_Attribute (W_Subscript (W_name (W_loadLocal rfl (by exact hm1) fun dv hdv => W_name (W_loadLocal rfl (by exact hma) fun kx2 hkx2 => ?_)))))))))))))
          obtain rfl := er_ref hdv
          refine W_itemDict (nse (F.keep _ _ S.hd) (by simp)) (k := kv) (by rw [hkx2]; exact hak) (dget_nodes_some S.kn hnv hnvk) fun ov hov => ?_
          obtain rfl := er_ref hov
          refine W_getSlot (i := 2) G1 (nse (F.keep _ _ (S.hn nv hnv).1) (by simp)) (nse (F.keep _ _ (S.hn nv hnv).2.1) (by simp)) rfl (by intro u q; cases q) (by k_is) (by k_is) (by k_is) (by k_is) (by k_is) (by k_is) fun lv hlv => W_items_nil ?_
          obtain rfl := er_ref hlv
          refine W_iterCall (nse (F.keep _ _ (S.hn nv hnv).2.2) (by simp)) fun I hI => ?_
          refine W_getNext Led.set_self fun q hq => W_items_nil ?_
          obtain ⟨es, epd, hnd1, hnd2, hnd3⟩ := F.hnd
          have hIse : I ≠ se := fun e => by rw [e, Led.set_self] at hI; cases hI
          have hI2 : τ₂ I = none := by rw [Led.set_ne hIse] at hI; exact hI
          have hqI : q ≠ I := fun e => by rw [e, Led.set_self] at hq; cases hq
          have hq1 := hq
          rw [Led.set_ne hqI] at hq1
          have hqse : q ≠ se := fun e => by rw [e, Led.set_self] at hq1; cases hq1
          have hq2 : τ₂ q = none := by rw [Led.set_ne hqse] at hq1; exact hq1
          have base0 : ∀ b o, τ₂ b = some o → b ≠ se → ((((τ₂.set se (.set (fun k' => S' k' || decide (k' = kv)) (j' + 1))).set I (.exact (liObj nv.s))).set I (isLIter nv.s 0)).set q (.exact (wrapObj I))) b = some o := fun b o e z => by
            rw [Led.set_ne (ne_of_led e hq2), Led.set_ne (ne_of_led e hI2), Led.set_ne (ne_of_led e hI2), Led.set_ne z]; exact e
          have b1 : ((((τ₂.set se (.set (fun k' => S' k' || decide (k' = kv)) (j' + 1))).set I (.exact (liObj nv.s))).set I (isLIter nv.s 0)).set q (.exact (wrapObj I))) se = some (.set (seenAdd S' kv) (j' + 1)) := by
            rw [Led.set_ne (Ne.symm hqse), Led.set_ne (Ne.symm hIse), Led.set_ne (Ne.symm hIse)]; exact Led.set_self
          have b2 : ((((τ₂.set se (.set (fun k' => S' k' || decide (k' = kv)) (j' + 1))).set I (.exact (liObj nv.s))).set I (isLIter nv.s 0)).set q (.exact (wrapObj I))) I = some (isLIter nv.s 0) := by
            rw [Led.set_ne (Ne.symm hqI)]; exact Led.set_self
          have b3 : ((((τ₂.set se (.set (fun k' => S' k' || decide (k' = kv)) (j' + 1))).set I (.exact (liObj nv.s))).set I (isLIter nv.s 0)).set q (.exact (wrapObj I))) q = some (.exact (wrapObj I)) := Led.set_self
          generalize ((((τ₂.set se (.set (fun k' => S' k' || decide (k' = kv)) (j' + 1))).set I (.exact (liObj nv.s))).set I (isLIter nv.s 0)).set q (.exact (wrapObj I))) = τ₃ at base0 b1 b2 b3 ⊢
          have ilse : il ≠ se := fun e => by have := F.hil; rw [e, F.hse] at this; cases this
          have slse : sl ≠ se := fun e => by have := F.hsl; rw [e, F.hse] at this; cases this
          have ndse : nd ≠ se := fun e => by have := hnd1; rw [e, F.hse] at this; cases this
          have ndsl : nd ≠ sl := fun e => by have := hnd1; rw [e, F.hsl] at this; cases this
          have ndil : nd ≠ il := fun e => by have := hnd1; rw [e, F.hil] at this; cases this
          have qil : q ≠ il := fun e => by rw [e, F.hil] at hq2; cases hq2
          have qsl : q ≠ sl := fun e => by rw [e, F.hsl] at hq2; cases hq2
          have qnd : q ≠ nd := fun e => by rw [e, hnd1] at hq2; cases hq2
          have Iil : I ≠ il := fun e => by rw [e, F.hil] at hI2; cases hI2
          have Isl : I ≠ sl := fun e => by rw [e, F.hsl] at hI2; cases hI2
          have Ind : I ≠ nd := fun e => by rw [e, hnd1] at hI2; cases hI2
          have hzst : st.length ≤ 500 := by omega
          have slz : sizeLine = 2 ^ 24 := rfl
          refine W_append (base0 _ _ F.hil ilse) ?_ (by rw [List.length_map]; omega)
          -- node2stacki[node] = len(stack)
          refine W_execs_cons (W_Assign_Subscript (W_Call (W_name (W_loadGlobal (W_builtinName G1 (by k_is) PySem.boot_len (by decide) (W_callWithB (by intro a h; cases h) (W_items_cons (W_name (W_loadLocal rfl (by exact hm2) fun v2 hv2 => W_items_nil ?_)))))))))
          obtain rfl := er_ref hv2
          refine W_len (xs := st.map (·.node)) (.inl ((Led.set_ne F.ne).trans (base0 _ _ F.hsl slse))) (by rw [List.length_map]; omega) fun t2 => ?_
          refine W_name (W_loadLocal rfl (by exact hm5) fun dv hdv => W_name (W_loadLocal rfl (by exact hma) fun kx3 hkx3 => ?_))
          obtain rfl := er_ref hdv
          refine W_setItemDict ((Led.set_ne ndil).trans (base0 _ _ hnd1 ndse)) (k := kv) (by rw [hkx3]; exact hak) (by omega) fun ep' => ?_
          -- stack.append(node)
          refine W_execs_cons (W_Expr (W_CallMethod (W_name (W_loadLocal rfl (by exact hm2) fun o ho => ?_))))
          obtain rfl := er_ref ho
          have hsl5 : ((τ₃.set il (.list (st.map (fun x => AV.ref x.q) ++ [er (.ref q)]))).set nd (.dict (dput es kv (er kx3) (er (.int ((st.map (·.node)).length : Nat) t2))) ep')) sl = some (.list (st.map (·.node))) := by
            rw [Led.set_ne (Ne.symm ndsl), Led.set_ne F.ne]; exact base0 _ _ F.hsl slse
          refine W_getMethod_list PySem.F.slot_list_append PySem.F.type_list_append hsl5 ?_
          refine W_callWithB (by intro a h; cases h) (W_items_cons (W_name (W_loadLocal rfl (by exact hma) fun kx4 hkx4 => W_items_nil ?_)))
          refine W_append hsl5 ?_ (by rw [List.length_map]; omega)
          have hgn : dget es kv = none := by
            rw [hnd2]; unfold idxS
            have : st.findIdx? (fun x => decide (x.node.key = some kv)) = none := List.findIdx?_eq_none_iff.mpr fun y hy => decide_eq_false fun z => by
              obtain ⟨k', e1, e2⟩ := F.seen y hy
              have : k' = kv := Option.some.inj (e1.symm.trans z)
              rw [this, hsk] at e2; cases e2
            rw [this]; rfl
          have hput := dget_put_new (es := es) (k := kv) (key := er kx3) (v := er (.int ((st.map (·.node)).length : Nat) t2)) (by rw [hkx3]; exact hak) hgn
          have F' := F.push (x := ⟨av, q, I, nv.s, nv.su, 0⟩) (k := kv) (es := dput es kv (er kx3) (er (.int ((st.map (·.node)).length : Nat) t2))) (ep := ep')
            (τ' := ((τ₃.set il (.list (st.map (fun x => AV.ref x.q) ++ [er (.ref q)]))).set nd (.dict (dput es kv (er kx3) (er (.int ((st.map (·.node)).length : Nat) t2))) ep')).set sl (.list (st.map (·.node) ++ [er kx4])))
            hak hsk rfl (fun b o e z1 z2 z3 z4 => by rw [Led.set_ne z1, Led.set_ne z4, Led.set_ne z2]; exact base0 b o e z3)
            (by rw [Led.set_self, hkx4]) (by rw [Led.set_ne (Ne.symm F.ne), Led.set_ne (Ne.symm ndil), Led.set_self]; rfl) (by rw [Led.set_ne (Ne.symm slse), Led.set_ne (Ne.symm ndse), Led.set_ne (Ne.symm ilse)]; exact b1)
            (by rw [Led.set_ne ndsl]; exact Led.set_self) (fun k' => by rw [(hput k').1, hnd2, List.length_map]; rfl) (by rw [(hput kv).2]; omega)
            (by rw [Led.set_ne qsl, Led.set_ne qnd, Led.set_ne qil]; exact b3) (by rw [Led.set_ne Isl, Led.set_ne Ind, Led.set_ne Iil]; exact b2) (S.hn nv hnv).2.2
            (by cases z : σ I with
                | none => rfl
                | some o => rw [F.keep _ _ z] at hI2; cases hI2)
            (by cases z : σ q with
                | none => rfl
                | some o => rw [F.keep _ _ z] at hq2; cases hq2) hI2
          refine W_execs_nil ⟨⟨hm1, hm2, hm3, hm4, hm5⟩, _, _, _, F', hj1, ?_, ?_, by simp; omega, fun v' st'' hp r hr' => hrun r ?_, fun hp => hrun _ ?_⟩
          · rw [stW_push]
            have := (unsW_add hnv hnvk hsk).1
            show unsW (seenAdd S' kv) ns + (stW st + (nv.su.length - 0)) ≤ _
            omega
          · intro x hx
            rcases List.mem_append.mp hx with hx | hx
            · exact hent x hx
            · rw [List.mem_singleton.mp hx]; exact ⟨nv, hnv, rfl⟩
          · rw [tops_push] at hp
            exact .newNext hak hsk (by rw [hsuk]; exact hp) hr'
          · rw [tops_push] at hp
            exact .newEnd hak hsk (by rw [hsuk]; exact hp)
      · cases fl with
        | cont => exact hfl.elim
        | brk => exact hfl.elim
        | ret v =>
          obtain ⟨q0, l, a, q1, q2, q3, q4, q5, q6⟩ := hfl
          exact ⟨rfl, q0, .ring l a q1 q2 q3 q4 q5 q6⟩
        | next =>
          obtain ⟨⟨hm1, hm2, hm3, hm4, hm5⟩, st', S'', j'', F, hc, hnW, hent, hstj, hnext, hend⟩ := hfl
          refine W_execs_cons (W_While G1.ok rfl (FPop ns σ d sl il se nd S'' j'' st') st'.length ⟨⟨hm1, hm2, hm3, hm4, hm5⟩, st', F, rfl, Nat.le_refl _, rfl, hent, hstj⟩ ?_)
          rintro nn m₄ τ₄ ⟨⟨hm1, hm2, hm3, hm4, hm5⟩, st₁, F, hpop, hstw, rfl, hent, hstj⟩
          have slz : sizeLine = 2 ^ 24 := rfl
          refine W_isTrue (W_name (W_loadLocal rfl (by exact hm2) fun o ho => ?_))
          obtain rfl := er_ref ho
          refine W_truthyList F.hsl (by rw [List.length_map]; omega) ?_
          rcases List.eq_nil_or_concat st₁ with rfl | ⟨st₀, x, rfl⟩
          · -- the stack is empty
            simp only [List.map_nil, List.isEmpty_nil, Bool.not_true, Bool.false_eq_true, if_false]
            refine W_execs_cons (W_Break ?_)
            refine W_execs_nil ⟨⟨by exact hm1, by exact hm2, by exact hm3, by exact hm4, by exact hm5⟩, S'', j'', F, hc, fun o ho => hr o ?_⟩
            rw [edrop]
            exact .go hk hb (hend (by rw [← hpop]; rfl)) ho
          · rw [List.concat_eq_append] at *
            have : (!(List.map (fun x => x.node) (st₀ ++ [x])).isEmpty) = true := by simp
            rw [this]
            simp only [if_true]
            have hx := F.hst x (List.mem_append_right _ (.head _))
            have hxn : τ₄ x.s = some (.list x.su) := F.keep _ _ hx.2.2.1
            obtain ⟨kx, hkx, hkS⟩ := F.seen x (List.mem_append_right _ (.head _))
            obtain ⟨es, epd, hnd1, hnd2, hnd3⟩ := F.hnd
            have hlen : (st₀ ++ [x]).length ≤ 500 := by omega
            refine W_execs_cons (W_Try G1.ok rfl (W_execs_cons (W_Assign_Name (W_Call (W_Subscript (W_name (W_loadLocal rfl (by exact hm3) fun o ho => W_UnaryOp (W_constInt fun t1 => W_neg fun t2 => ?_))))))))
            obtain rfl := er_ref ho
            refine W_itemLast (ys := st₀.map fun x => .ref x.q) (y := .ref x.q) (by rw [F.hil]; simp) (by simp at hlen ⊢; omega) fun qv hqv => ?_
            obtain rfl := er_ref hqv
            refine W_callWithWrap hx.1 ?_
            cases hsx : x.su[x.i]? with
            | some s =>
              have hix : x.i < x.su.length := (List.getElem?_eq_some_iff.mp hsx).1
              refine W_callNext hx.1 hx.2.1 hxn hsx fun sv hsv => W_storeLocal rfl ?_
              have F' := F.adv
              obtain ⟨nx, hnx, hnxsu⟩ := hent x (List.mem_append_right _ (.head _))
              obtain ⟨ks, hks, ns', hns', hnsk⟩ := hcl nx.pn (List.mem_map.mpr ⟨nx, hnx, rfl⟩) s (by rw [show nx.pn.su = nx.su from rfl, ← hnxsu]; exact List.mem_of_getElem? hsx)
              obtain ⟨n6, hn6, rfl⟩ := List.mem_map.mp hns'
              have edr : x.su.drop x.i = s :: x.su.drop (x.i + 1) := by rw [List.drop_eq_getElem_cons hix, (List.getElem?_eq_some_iff.mp hsx).2]
              have hp2 : popS (tops (st₀ ++ [x])) = some (s, tops (st₀ ++ [{ x with i := x.i + 1 }])) := by
                rw [tops_push, tops_push]
                show popS ((x.node, x.su.drop x.i) :: tops st₀) = _
                rw [edr]; rfl
              refine W_execs_cons (W_Break ?_)
              refine W_execs_nil ⟨unsW S'' ns + stW (st₀ ++ [{ x with i := x.i + 1 }]), ?_, ⟨by exact hm1, by exact hm2, by exact hm3, by exact hm4, by exact hm5⟩, s, ks, st₀ ++ [{ x with i := x.i + 1 }], S'', j'', ?_, hks, ⟨n6, hn6, hnsk⟩, F', hc, rfl, ?_, by simpa using hstj, fun r hr' => hnext s _ (by rw [← hpop]; exact hp2) r hr'⟩
              · rw [stW_push] at hstw ⊢
                show unsW S'' ns + (stW st₀ + (x.su.length - (x.i + 1))) < _
                omega
              · show (Loc.set _ _ _) _ = _; rw [hsv]; rfl
              · intro y hy
                rcases List.mem_append.mp hy with hy | hy
                · exact hent y (List.mem_append_left _ hy)
                · rw [List.mem_singleton.mp hy]; exact ⟨nx, hnx, hnxsu⟩
            | none =>
              have hix : x.su.length ≤ x.i := by simpa using hsx
              refine W_callStop hh hx.1 hx.2.1 hxn hsx ?_
              intro ev
              refine W_name (W_loadGlobal (W_builtinName (G1.mark _) (by k_is) PyProof.Rows.Boot.«StopIteration» (by decide) ⟨?_, ?_⟩))
              · exact meets_builtin isStop notTuple_stop (by rw [isSubtype_type]; kernel_rfl)
              · have hne1 : sl ≠ x.I := fun e => by have := F.hsl; rw [e, hx.2.1] at this; cases this
                have hne2 : il ≠ x.I := fun e => by have := F.hil; rw [e, hx.2.1] at this; cases this
                have hne3 : nd ≠ x.I := fun e => by have := hnd1; rw [e, hx.2.1] at this; cases this
                have ndsl : nd ≠ sl := fun e => by have := hnd1; rw [e, F.hsl] at this; cases this
                have ndil : nd ≠ il := fun e => by have := hnd1; rw [e, F.hil] at this; cases this
                -- del node2stacki[stack.pop()]
                refine W_execs_cons (W_Delete1 (W_deleteSub (W_name (W_loadLocal rfl (by exact hm5) fun dv hdv => W_CallMethod (W_name (W_loadLocal rfl (by exact hm2) fun o ho => ?_))))))
                obtain rfl := er_ref ho
                obtain rfl := er_ref hdv
                have hsl' : (τ₄.del x.I) sl = some (.list (st₀.map (·.node) ++ [x.node])) := by rw [Led.del_ne hne1, F.hsl]; simp
                refine W_getMethod_list PySem.F.slot_list_pop PySem.F.type_list_pop hsl' (W_callWithB0 (by intro a h; cases h) ?_)
                refine W_pop hsl' (by simp at hlen ⊢; omega) fun kv' hkv' => ?_
                refine W_delItem ((Led.set_ne ndsl).trans ((Led.del_ne hne3).trans hnd1)) (k := kx) (by rw [hkv']; exact hkx) (by
                  rw [hnd2]; unfold idxS
                  have : (st₀ ++ [x]).findIdx? (fun x => decide (x.node.key = some kx)) ≠ none := fun z => by
                    have := List.findIdx?_eq_none_iff.mp z x (List.mem_append_right _ (.head _))
                    simp [hkx] at this
                  cases q : (st₀ ++ [x]).findIdx? (fun x => decide (x.node.key = some kx)) with
                  | none => exact (this q).elim
                  | some _ => rfl) (by omega) fun es' ep' hes hesl => ?_
                -- itstack.pop()
                refine W_execs_cons (W_Expr (W_CallMethod (W_name (W_loadLocal rfl (by exact hm3) fun o ho => ?_))))
                obtain rfl := er_ref ho
                have hil' : (((τ₄.del x.I).set sl (.list (st₀.map (·.node)))).set nd (.dict es' ep')) il = some (.list (st₀.map (fun x => AV.ref x.q) ++ [.ref x.q])) := by
                  rw [Led.set_ne (Ne.symm ndil), Led.set_ne (Ne.symm F.ne), Led.del_ne hne2, F.hil]; simp
                refine W_getMethod_list PySem.F.slot_list_pop PySem.F.type_list_pop hil' (W_callWithB0 (by intro a h; cases h) ?_)
                refine W_pop hil' (by simp at hlen ⊢; omega) fun qv2 hqv2 => ?_
                have F' := F.pop (k := kx) (es := es') (ep := ep') (τ' := (((τ₄.del x.I).set sl (.list (st₀.map (·.node)))).set nd (.dict es' ep')).set il (.list (st₀.map fun x => AV.ref x.q))) hkx
                  (fun b o e z1 z2 z3 z4 => by rw [Led.set_ne z2, Led.set_ne z3, Led.set_ne z1, Led.del_ne z4]; exact e)
                  (by rw [Led.set_ne F.ne, Led.set_ne (Ne.symm ndsl)]; exact Led.set_self) Led.set_self (by rw [Led.set_ne ndil]; exact Led.set_self) (fun k' => by rw [hes k', hnd2]) (by omega)
                have hp2 : popS (tops (st₀ ++ [x])) = popS (tops st₀) := by
                  rw [tops_push]
                  show popS ((x.node, x.su.drop x.i) :: tops st₀) = _
                  rw [List.drop_of_length_le hix]; rfl
                refine W_execs_nil (W_execs_nil ⟨st₀.length, by simp, ⟨by exact hm1, by exact hm2, by exact hm3, by exact hm4, by exact hm5⟩, st₀, F', by rw [← hp2]; exact hpop, ?_, rfl, fun y hy => hent y (List.mem_append_left _ hy), by simp at hstj; omega⟩)
                rw [stW_push] at hstw; omega
  · obtain ⟨_, Sn, j, F, hc, hr⟩ := hI
    refine W_execs_cons (W_Return (W_constNone ⟨rfl, F.keep, .none rfl (hr none ?_)⟩))
    rw [List.length_map, List.drop_of_length_le (by rw [List.length_map]; exact Nat.le_refl _)]
    exact .nil
end Mine
end
section
namespace Mine
theorem fillG : (fun (_ : OpenLaw) (_ : Params → Frag) => True) PySem.Challenge.rw_nq0156_01 Mine.hd.heap_1 := by
  k_fill; trivial
/-- the nodes that wait for none -/
noncomputable def readyOf (ps : List PN) : List AV := (ps.filter fun n => n.np == 0).map (·.node)
set_option maxRecDepth 100000 in
set_option maxHeartbeats 2000000 in
theorem prepare_ {c : Cx} {E : Value → Loc → Led → Prop} {m : Loc} {σ : Led} {Q : Value → Loc → Led → Prop} {x dx d : Addr} {ep : Nat} {ns : List NI} {p f : Int} (G : Good Mine.hd.heap_1 5 c) (hh : c.A.handled = none)
    (S : SC 62 159 σ x dx d ep ns none p f) (hz : ns.length ≤ 500) (hcl : Closed (ns.map NI.pn)) (hsu : suB 1000 (ns.map NI.pn))
    (h1 : RunAll (fun k => suOf k (ns.map NI.pn)) (ns.map NI.node) (fun _ => false) none → ∀ r σ', SC 62 159 σ' x dx d ep ns (some (r, readyOf (ns.map NI.pn))) p f → Q .none m σ')
    (h2 : ∀ l, RunAll (fun k => suOf k (ns.map NI.pn)) (ns.map NI.node) (fun _ => false) (some l) → ∀ r σ', SC 62 159 σ' x dx d ep ns (some (r, readyOf (ns.map NI.pn))) p f → E (.ref 77) m σ') :
    W c (call (.ref 114) [.ref x]) Q E m σ := by
  refine W_fn [("self", .ref x)] G (by k_is) (by k_is) (by rfl) (by rfl) fun L hL G1 => ?_
  refine W_execs_cons (W_If (W_isTrue_Compare (W_Compare (W_Attribute (W_lr rfl (by rfl) ?_)))))
  refine W_getAttr G1 S.hx S.hdx (by rfl) (by intro u q; cases q) (by k_is) (by k_is) (by k_is) (by k_is) fun v hv' => ?_
  obtain rfl := er_none hv'
  refine W_constNone (W_isNotNone (W_truthyBool (W_execs_nil ?_)))
  -- self._ready_nodes = [..]
  refine W_execs_cons (W_Assign_Attribute (W_ListComp (cl := []) (by rfl) (W_CallMethod (W_Attribute (W_lr rfl (by rfl) ?_)))))
  refine W_getAttr G1 S.hx S.hdx (by rfl) (by intro u q; cases q) (by k_is) (by k_is) (by k_is) (by k_is) fun v hv' => ?_
  obtain rfl := er_ref hv'
  refine W_getMethod_dict PySem.F.slot_dict_values PySem.F.type_dict_values S.hd (W_callWithB0 (by intro a h; cases h) ?_)
  refine W_dictValues G1 S.hd fun v hv => ?_
  have hdv : (σ.set v (isVView d)) d = some (.dict (ns.map fun n => (n.node, .ref n.a)) ep) := Led.set_old S.hd hv
  refine W_keep (W_pyIter_values Led.set_self hdv fun I hI => ⟨σ.set I (isVIter d (ns.map fun n => (n.node, AV.ref n.a)).length ep 0), (Led.le_set hv).set2, ?_⟩)
  have hI' : σ I = none := (Led.le_set hv).none hI
  refine CompGoal.pure (stable := fun τ => τ d = some (.dict (ns.map fun n => (n.node, .ref n.a)) ep)) (mk := isVIter d (ns.map fun n => (n.node, AV.ref n.a)).length ep) ns (fun n => AV.ref n.a) (fun n => n.np == 0) (fun n => n.node) (fun C => ?_) hI' S.hd (Nat.le_trans hz (by decide)) (fun C n v m' hn hv => ?_) (fun r hr => ?_)
  · have e : (ns.map fun n => AV.ref n.a) = (ns.map fun n => (n.node, AV.ref n.a)).map (·.2) := by rw [List.map_map]; rfl
    rw [e]
    refine IterS.values ?_ I d (ns.map fun n => (n.node, AV.ref n.a)) ep; exact hh
  · obtain rfl := er_ref hv
    refine W_assignName (W_storeLocal rfl (W_tests_one (W_isTrue_Compare (W_Compare (W_Attribute (W_lr rfl (by rfl) ?_))))))
    refine W_getSlot (i := 1) G1.comp (S.hn n hn).1 (S.hn n hn).2.1 rfl (by intro u q; cases q) (by k_is) (by k_is) (by k_is) (by k_is) (by k_is) (by k_is) fun v hv => ?_
    obtain ⟨t, rfl⟩ := er_int hv
    refine W_constInt fun t2 => W_eqInt (W_truthyBool ⟨rfl, ?_⟩)
    by_cases hnp : n.np = 0
    · rw [if_pos (by simp [hnp])]
      refine W_Attribute (W_lr rfl (by rfl) ?_)
      refine W_getSlot (i := 0) G1.comp (S.hn n hn).1 (S.hn n hn).2.1 rfl ?_ (by k_is) (by k_is) (by k_is) (by k_is) (by k_is) (by k_is) fun v hv => ⟨hv, Led.le.refl _⟩
      intro u q
      obtain ⟨k, hk⟩ := S.ks n hn
      rw [q] at hk; cases hk
    · rw [if_neg (by simp [hnp])]
      exact Led.le.refl _
  have hrl : (ns.filter fun n => n.np == 0).map (fun n => n.node) = readyOf (ns.map NI.pn) := by
    unfold readyOf
    rw [List.filter_map, List.map_map]; rfl
  rw [hrl]
  refine W_lr rfl (by rfl) ?_
  have S0 := S.mono (Led.sub_set (o := .list (readyOf (ns.map NI.pn))) hr)
  refine W_setAttr G1 S0.hx S0.hdx (by show 4 ≤ 900; decide) (by k_is) (by k_is) (by k_is) (by k_is) ?_
  have hrs : r ∉ ns.map (·.s) := fun hm => by
    obtain ⟨n, hn, e⟩ := List.mem_map.mp hm
    have := (S.hn n hn).2.2
    rw [e, hr] at this; cases this
  have S1 := S0.setA (rd' := some (r, readyOf (ns.map NI.pn))) (p' := p) (f' := f) (fun r' l' e => by cases e; exact ⟨Led.set_self, hrs⟩) S0.dn
  have e : putA (Str.ofString "_ready_nodes") (er (.ref r)) (sattrs d none p f) = sattrs d (some (r, readyOf (ns.map NI.pn))) p f := rfl
  rw [e]
  generalize ((σ.set r (.list (readyOf (ns.map NI.pn)))).set dx (.attrs (sattrs d (some (r, readyOf (ns.map NI.pn))) p f))) = σ₁ at S1 ⊢
  -- cycle = self._find_cycle()
  refine W_execs_cons (W_Assign_Name (W_CallMethod (W_lr rfl (by rfl) ?_)))
  refine W_getMethod G1 S1.hx S1.hdx (by rfl) (by k_is) (by k_is) (by k_is) ?_
  refine W_callWithK0 G1.X (by k_is) ?_
  refine findCycle (G1.le (by decide)) hh S1 hz hcl hsu (fun hr0 => W_storeLocal rfl ?_) (fun l a hra hln hlne ha => W_storeLocal rfl ?_)
  · refine W_execs_cons (W_If (W_isTrue (W_lv rfl (by rfl) fun v hv => ?_)))
    obtain rfl := er_none hv
    refine W_val (v := false) (fun _ _ _ _ q => truthy_none q) (W_execs_nil (W_execs_nil ?_))
    exact h1 hr0 r σ₁ S1
  · refine W_execs_cons (W_If (W_isTrue (W_lr rfl (by rfl) (W_truthyList Led.set_self (Nat.le_trans hln (by decide)) ?_))))
    have S2 := S1.mono (Led.sub_set (o := .list l) ha)
    cases l with
    | nil => exact (hlne rfl).elim
    | cons y ys =>
      refine W_execs_cons (W_RaiseOwn G1 (by k_is) (by k_exc) PySem.F.excBase_ValueError hh (W_items_cons (fun φ s hd hA => wpAny_JoinedStr_one ?_)))
      refine (W_constStr (c := c.into m _ L) fun t => W_arg1 (W_lr rfl (by rfl) ⟨by show 2 ≤ sizeLine; decide, ?_⟩)) φ s hd hA
      exact h2 _ hra r _ S2
set_option maxRecDepth 100000 in
set_option maxHeartbeats 2000000 in
/-- _deduplicate of what has a hash -/
theorem dedH {c : Cx} {E : Value → Loc → Led → Prop} {m : Loc} {σ : Led} {Q : Value → Loc → Led → Prop} {p : Addr} {l : List (PKey × AV)} (G : Good Mine.hd.heap_1 3 c) (hh : c.A.handled = none)
    (hp : σ p = some (.list (l.map (·.2)))) (hk : ∀ q ∈ l, q.2.key = some q.1) (hz : l.length ≤ 100000) (h : ∀ a ep, σ a = none → Q (.ref a) m (σ.set a (.dict (l.foldl fkStep []) ep))) : W c (call (.ref 29) [.ref p]) Q E m σ := by
  refine W_fnP [("params", .ref p), ("unhashable_fallback", .bool false)] G (by k_is) (by k_is) (by exact fun _ => rfl) (by rfl) fun L hL G1 => ?_
  refine W_execs_cons (W_Try G1.ok rfl (W_execs_cons (W_Return (W_CallMethod (W_name (W_loadGlobal (W_builtinName G1 (by k_is) PyProof.Rows.Boot.«dict» (by decide) ?_)))))))
  refine W_getFromkeys G1 (by k_is) fun x hx => ?_
  refine W_callWith rfl (fun σ => σ x = some (.exact fkObj)) (fun σ φ m h hP hA => keep_fk σ φ m h hP hA) (W_args (W_arg1 (W_lr rfl (by rfl) ⟨Led.set_self, ?_⟩)))
  refine W_keep (W_callFk Led.set_self (WC_fk (l := l) hh (Led.set_old hp hx) hk hz fun a ep ha => ⟨σ.set a (.dict (l.foldl fkStep []) ep), (Led.le_set hx).set2, ?_⟩))
  exact h a ep ((Led.le_set hx).none ha)
end Mine
end
section
namespace Mine
/-! lists of small numbers, and lists of such, as they lie in the ledger -/
noncomputable abbrev iv (n : Nat) : AV := .int (n : Int)
noncomputable def dI (ns : List Nat) : PyData := .list (ns.map fun (n : Nat) => .int n)
noncomputable def dII (nss : List (List Nat)) : PyData := .list (nss.map dI)
noncomputable abbrev AI (ns : List Nat) : AO := .list (ns.map iv)
theorem RDs_iv {σ : Led} : ∀ {ns : List Nat} {xs : List AV}, RDs σ (ns.map fun (n : Nat) => PyData.int n) xs ↔ xs = ns.map iv
  | [], xs => Iff.rfl
  | n :: ns, xs => by
    constructor
    · rintro ⟨x, r, rfl, h1, h2⟩
      rw [List.map_cons, RDs_iv.mp h2]
      have : x = AV.int n := h1
      rw [this]
    · rintro rfl
      exact ⟨iv n, ns.map iv, rfl, rfl, RDs_iv.mpr rfl⟩
theorem RD_dI {σ : Led} {ns : List Nat} {v : AV} : RD σ (dI ns) v ↔ ∃ a, v = .ref a ∧ σ a = some (AI ns) := by
  constructor
  · rintro ⟨a, xs, rfl, h1, h2⟩
    exact ⟨a, rfl, by rw [h1, RDs_iv.mp h2]⟩
  · rintro ⟨a, rfl, h⟩
    exact ⟨a, _, rfl, h, RDs_iv.mpr rfl⟩
theorem RD_dI' {σ : Led} {ns : List Nat} {a : Addr} (h : σ a = some (AI ns)) : RD σ (dI ns) (.ref a) := RD_dI.mpr ⟨a, rfl, h⟩
theorem RDs_dII {σ : Led} : ∀ {nss : List (List Nat)} {xs : List AV}, RDs σ (nss.map dI) xs → xs.length = nss.length ∧ ∀ {i : Nat} {ns : List Nat}, nss[i]? = some ns → ∃ b, xs[i]? = some (.ref b) ∧ σ b = some (AI ns) := by
  intro nss xs h
  refine ⟨by rw [h.length, List.length_map], fun {i ns} e => ?_⟩
  obtain ⟨x, hx, hd⟩ := h.get (i := i) (d := dI ns) (by rw [List.getElem?_map, e]; rfl)
  obtain ⟨b, rfl, hb⟩ := RD_dI.mp hd
  exact ⟨b, hx, hb⟩
theorem RD_dII {σ : Led} {nss : List (List Nat)} {v : AV} (h : RD σ (dII nss) v) : ∃ a xs, v = .ref a ∧ σ a = some (.list xs) ∧ xs.length = nss.length ∧ RDs σ (nss.map dI) xs ∧ ∀ {i : Nat} {ns : List Nat}, nss[i]? = some ns → ∃ b, xs[i]? = some (.ref b) ∧ σ b = some (AI ns) := by
  obtain ⟨a, xs, rfl, h1, h2⟩ := h
  exact ⟨a, xs, rfl, h1, (RDs_dII h2).1, h2, (RDs_dII h2).2⟩
theorem eqv_int (a b : Nat) : PyData.eqv (.int a) (.int b) = decide (a = b) := by
  show ((a : Int) == (b : Int)) = _
  by_cases q : a = b
  · subst q; simp
  · have : (a : Int) ≠ b := fun e => q (by omega)
    rw [decide_eq_false q]; exact beq_eq_false_iff_ne.mpr this
theorem eqvAll_ints : ∀ (a b : List Nat), PyData.eqvAll (a.map fun (n : Nat) => .int n) (b.map fun (n : Nat) => .int n) = decide (a = b)
  | [], [] => rfl
  | [], _ :: _ => rfl
  | _ :: _, [] => rfl
  | x :: a, y :: b => by
    show (PyData.eqv (.int x) (.int y) && PyData.eqvAll _ _) = _
    rw [eqv_int, eqvAll_ints a b]
    by_cases q : x = y <;> by_cases r : a = b <;> simp [q, r]
theorem eqv_dI (a b : List Nat) : PyData.eqv (dI a) (dI b) = decide (a = b) := eqvAll_ints a b
theorem eqvAll_dII : ∀ (a b : List (List Nat)), PyData.eqvAll (a.map dI) (b.map dI) = decide (a = b)
  | [], [] => rfl
  | [], _ :: _ => rfl
  | _ :: _, [] => rfl
  | x :: a, y :: b => by
    show (PyData.eqv (dI x) (dI y) && PyData.eqvAll _ _) = _
    rw [eqv_dI, eqvAll_dII a b]
    by_cases q : x = y <;> by_cases r : a = b <;> simp [q, r]
theorem eqv_dII (a b : List (List Nat)) : PyData.eqv (dII a) (dII b) = decide (a = b) := eqvAll_dII a b
theorem lay_ints : ∀ (a : List Nat), PyData.canLayAll0 (a.map fun (n : Nat) => .int n) = true
  | [] => rfl
  | x :: a => by show (true && PyData.canLayAll0 _) = true; rw [lay_ints a]; rfl
theorem lay_dI (a : List Nat) : (dI a).canLay0 = true := lay_ints a
theorem lay_dIs : ∀ (a : List (List Nat)), PyData.canLayAll0 (a.map dI) = true
  | [] => rfl
  | x :: a => by show ((dI x).canLay0 && PyData.canLayAll0 _) = true; rw [lay_dI, lay_dIs a]; rfl
theorem lay_dII (a : List (List Nat)) : (dII a).canLay0 = true := lay_dIs a
theorem depth_ints : ∀ (a : List Nat), PyData.depthAll (a.map fun (n : Nat) => .int n) = 0
  | [] => rfl
  | x :: a => by show max 0 (PyData.depthAll _) = 0; rw [depth_ints a]; rfl
theorem depth_dI (a : List Nat) : (dI a).depth = 1 := by show PyData.depthAll _ + 1 = 1; rw [depth_ints]
theorem depth_dIs : ∀ (a : List (List Nat)), PyData.depthAll (a.map dI) ≤ 1
  | [] => Nat.zero_le _
  | x :: a => by show max (dI x).depth (PyData.depthAll _) ≤ 1; rw [depth_dI]; exact Nat.max_le.mpr ⟨Nat.le_refl _, depth_dIs a⟩
theorem depth_dII (a : List (List Nat)) : (dII a).depth ≤ 2 := Nat.succ_le_succ (depth_dIs a)
theorem any_ints (a : List Nat) (x : Nat) : (a.map fun (n : Nat) => PyData.int n).any (fun y => PyData.eqv y (.int x)) = a.contains x := by
  induction a with
  | nil => rfl
  | cons y a ih =>
    rw [List.map_cons, List.any_cons, ih, eqv_int, List.contains_cons]
    by_cases q : y = x
    · subst q; simp
    · have : (x == y) = false := by simpa using fun e => q e.symm
      simp [q, this]
section
variable {K : Params → Frag} {n : Nat} {c : Cx} {E : Value → Loc → Led → Prop} {m : Loc} {σ : Led} {env : Env} {Q : Value → Loc → Led → Prop}
theorem W_inI {l : Addr} {ns : List Nat} {x : Nat} {t : Tok} (G : Good K n c) (hl : σ l = some (AI ns)) (h : Q (.bool (ns.contains x)) m σ) : W c (compareOp .In (.int x t) (.ref l)) Q E m σ :=
  W_in (d := .int x) (ds := ns.map fun (n : Nat) => .int n) (RD_dI' hl) rfl (lay_ints _) rfl (by rw [depth_ints]; exact G.unit (k := 1 + 0) (by decide)) (by rw [any_ints]; exact h)
theorem W_notInI {l : Addr} {ns : List Nat} {x : Nat} {t : Tok} (G : Good K n c) (hl : σ l = some (AI ns)) (h : Q (.bool (!ns.contains x)) m σ) : W c (compareOp .NotIn (.int x t) (.ref l)) Q E m σ :=
  W_notIn (d := .int x) (ds := ns.map fun (n : Nat) => .int n) (RD_dI' hl) rfl (lay_ints _) rfl (by rw [depth_ints]; exact G.unit (k := 1 + 0) (by decide)) (by rw [any_ints]; exact h)
theorem W_eqI {a b : Addr} {xs ys : List Nat} (G : Good K n c) (ha : σ a = some (AI xs)) (hb : σ b = some (AI ys)) (h : Q (.bool (decide (xs = ys))) m σ) : W c (compareOp .Eq (.ref a) (.ref b)) Q E m σ :=
  W_eq (da := dI xs) (db := dI ys) (RD_dI' ha) (RD_dI' hb) (lay_dI _) (lay_dI _) (by rw [depth_dI, depth_dI]; exact G.unit (k := 1) (by decide)) (by rw [eqv_dI]; exact h)
theorem W_neII {a b : Addr} {xs ys : List (List Nat)} (G : Good K n c) (ha : RD σ (dII xs) (.ref a)) (hb : RD σ (dII ys) (.ref b)) (h : Q (.bool (!decide (xs = ys))) m σ) : W c (compareOp .NotEq (.ref a) (.ref b)) Q E m σ :=
  W_ne (da := dII xs) (db := dII ys) ha hb (lay_dII _) (lay_dII _) (Nat.lt_of_le_of_lt (Nat.add_le_add_left (Nat.le_trans (Nat.min_le_left _ _) (depth_dII _)) _) (G.unit (k := 2) (by decide))) (by rw [eqv_dII]; exact h)
/-- an item, its place a number within -/
theorem W_itemI {value slice : Expr} {l : Addr} {ns : List Nat} {k : Nat} {t : Tok} (hl : σ l = some (AI ns)) (hk : k < ns.length) (hz : ns.length ≤ sizeLine) (h : ∀ t, Q (.int (ns[k] : Nat) t) m σ)
    (hs : subscripted slice false (.ref l) (.int k t) = operate [.ref l, .int k t] (getItem (.ref l) (.int k t)) := by with_unfolding_all rfl) (hg : ∀ r, letTemporaryGo value (.ref l) r = pure () := by intro _; with_unfolding_all rfl) :
    W c (subscriptTail value slice (.ref l) (.int k t)) Q E m σ :=
  W_item (x := iv ns[k]) hl (by omega) (by simp [hk]) (by simpa using hz) (fun v hv => by obtain ⟨t, rfl⟩ := er_int hv; exact h t) hs hg
theorem W_itemII0 {σ₀ : Led} {value slice : Expr} {l : Addr} {nss : List (List Nat)} {k : Nat} {t : Tok} (hl : RD σ₀ (dII nss) (.ref l)) (hle : σ₀.le σ) (hk : k < nss.length) (hz : nss.length ≤ sizeLine) (h : ∀ b, σ₀ b = some (AI nss[k]) → Q (.ref b) m σ)
    (hs : subscripted slice false (.ref l) (.int k t) = operate [.ref l, .int k t] (getItem (.ref l) (.int k t)) := by with_unfolding_all rfl) (hg : ∀ r, letTemporaryGo value (.ref l) r = pure () := by intro _; with_unfolding_all rfl) :
    W c (subscriptTail value slice (.ref l) (.int k t)) Q E m σ := by
  obtain ⟨a, xs, e, h1, h2, h3, h4⟩ := RD_dII hl
  cases e
  obtain ⟨b, hb, hs'⟩ := h4 (List.getElem?_eq_getElem hk)
  exact W_item (x := .ref b) (hle _ _ h1) (by omega) (by simpa using hb) (by omega) (fun v hv => by rw [er_ref hv]; exact h b hs') hs hg
theorem W_itemII {value slice : Expr} {l : Addr} {nss : List (List Nat)} {k : Nat} {t : Tok} (hl : RD σ (dII nss) (.ref l)) (hk : k < nss.length) (hz : nss.length ≤ sizeLine) (h : ∀ b, σ b = some (AI nss[k]) → Q (.ref b) m σ)
    (hs : subscripted slice false (.ref l) (.int k t) = operate [.ref l, .int k t] (getItem (.ref l) (.int k t)) := by with_unfolding_all rfl) (hg : ∀ r, letTemporaryGo value (.ref l) r = pure () := by intro _; with_unfolding_all rfl) :
    W c (subscriptTail value slice (.ref l) (.int k t)) Q E m σ := W_itemII0 hl (Led.le.refl _) hk hz h hs hg
end
/-! the cells of a frame -/
theorem Ane {L i j : Nat} (h : i ≠ j) : L + i ≠ L + j := by omega
theorem cells2 {σ : Led} {L : Addr} {o1 o2 : AO} (hL : ∀ e, L ≤ e → σ e = none) : σ.le ((σ.set (L + 1) o1).set (L + 2) o2) ∧ ((σ.set (L + 1) o1).set (L + 2) o2) (L + 1) = some o1 ∧ ((σ.set (L + 1) o1).set (L + 2) o2) (L + 2) = some o2 :=
  ⟨(Led.le_set (hL _ (Nat.le_add_right _ _))).trans (Led.le_set ((Led.set_ne (Ane (by decide))).trans (hL _ (Nat.le_add_right _ _)))), (Led.set_ne (Ane (by decide))).trans Led.set_self, Led.set_self⟩
end Mine
end
section
namespace Mine
theorem fillH : (fun (_ : OpenLaw) (_ : Params → Frag) => True) PySem.Challenge.rw_nq0156_01 Mine.hd.heap_1 := by
  k_fill; trivial
/-- a sorter, its part of the ledger alone -/
noncomputable def Srt (σs : Led) (x : Addr) (ps : List PN) (rd : Option (List AV)) (p f : Int) : Prop := ∃ dx d ep ns r, SC 62 159 σs x dx d ep ns (rd.map fun l => (r, l)) p f ∧ ns.map NI.pn = ps
noncomputable def Led.emp : Led := fun _ => none
theorem Led.emp_un (φ : Led) : Led.emp.un φ = φ := rfl
theorem Dis.emp (φ : Led) : Dis Led.emp φ := fun _ => .inl rfl
theorem Led.le_un_right {σ φ : Led} (h : Dis σ φ) : φ.le (σ.un φ) := fun b o e => by
  rw [Led.un_right ((h b).resolve_right (by rw [e]; intro q; cases q))]; exact e
theorem Led.le_un_left {σ φ : Led} : σ.le (σ.un φ) := fun b o e => Led.un_left e
section
variable {c : Cx} {E : Value → Loc → Led → Prop} {m : Loc} {σ φ₀ : Led}
theorem WC_frameE {code : Code} {Q : Value → Loc → Led → Prop} (φ₀ : Led) (h : WC c code Q E m σ) (hd₀ : Dis σ φ₀) :
    WC c code (fun a m' σ₂ => Framed φ₀ (Q a m') σ₂) E m (σ.un φ₀) := fun φ s hd hA => by
  have hd₁ := Dis.un hd hd₀
  have dφ : ∀ {σ' : Led}, Dis σ' (φ₀.un φ) → Dis σ' φ₀ ∧ Dis (σ'.un φ₀) φ := fun {σ'} x => by
    refine ⟨fun a => (x a).imp id fun e => (Led.un_none e).1, fun a => ?_⟩
    rcases x a with e | e
    · cases q : φ₀ a with
      | none => left; rw [Led.un_right e]; exact q
      | some o =>
        right
        rcases hd a with r | r
        · rcases hd₀ a with z | z
          · rw [Led.un_right z, q] at r; cases r
          · rw [q] at z; cases z
        · exact r
    · exact .inr (Led.un_none e).2
  refine codeAny_mono (h (φ₀.un φ) s hd₁ (Led.un_assoc ▸ hA)) fun r s' x => ?_
  cases r with
  | ok f =>
    cases f with
    | ret v =>
      obtain ⟨h', tk, m', σ', e, d, hA', q⟩ := x
      exact ⟨h', tk, m', σ'.un φ₀, e, (dφ d).2, Led.un_assoc ▸ hA', σ', rfl, (dφ d).1, q⟩
    | _ => exact x.elim
  | error e =>
    refine PE.drop (φ₀ := φ₀) ?_
    obtain ⟨h', tk, m', σ', cls, e, d, hA', hx, q⟩ := x
    exact ⟨h', tk, m', σ'.un φ₀, cls, e, (dφ d).2, Led.un_assoc ▸ hA', Led.un_assoc ▸ hx, σ', rfl, (dφ d).1, q⟩
theorem WC_mono {code : Code} {Q Q' : Value → Loc → Led → Prop} {E' : Value → Loc → Led → Prop} (h : WC c code Q E m σ) (hQ : ∀ a m σ, Q a m σ → Q' a m σ) (hE : ∀ a m σ, E a m σ → E' a m σ) : WC c code Q' E' m σ := fun φ s hd hA =>
  codeAny_mono (h φ s hd hA) fun r s' x => by
    cases r with
    | ok f =>
      cases f with
      | ret v => obtain ⟨h', tk, m', σ', e, d, hA', q⟩ := x; exact ⟨h', tk, m', σ', e, d, hA', hQ _ _ _ q⟩
      | _ => exact x.elim
    | error e => obtain ⟨h', tk, m', σ', cls, e, d, hA', hx, q⟩ := x; exact ⟨h', tk, m', σ', cls, e, d, hA', hx, hE _ _ _ q⟩
/-- the frame rule, the raise told too -/
theorem W_framed {α : Type} {t : Sem α} {Q Q' : α → Loc → Led → Prop} {E' : Value → Loc → Led → Prop} {φ₀ : Led} (h : W c t Q' E' m σ) (hd₀ : Dis σ φ₀) (hQ : ∀ a m' σ', Dis σ' φ₀ → Q' a m' σ' → Q a m' (σ'.un φ₀)) (hE : ∀ a m' σ', Dis σ' φ₀ → E' a m' σ' → E a m' (σ'.un φ₀)) : W c t Q E m (σ.un φ₀) :=
  W_mono (W_frame φ₀ h hd₀) (fun a m' σ₂ ⟨σ', e, d, q⟩ => e ▸ hQ a m' σ' d q) fun a m' σ₂ ⟨σ', e, d, q⟩ => e ▸ hE a m' σ' d q
theorem WC_framed {code : Code} {Q Q' : Value → Loc → Led → Prop} {φ₀ : Led} (h : WC c code Q' NoE m σ) (hd₀ : Dis σ φ₀) (hQ : ∀ a m' σ', Dis σ' φ₀ → Q' a m' σ' → Q a m' (σ'.un φ₀)) : WC c code Q E m (σ.un φ₀) :=
  WC_mono (WC_frameE φ₀ h hd₀) (fun a m' σ₂ ⟨σ', e, d, q⟩ => e ▸ hQ a m' σ' d q) fun _ _ _ q => q.elim
theorem newSorter {Q : Value → Loc → Led → Prop} {φ : Led} (G : Good Mine.hd.heap_1 4 c) (h : ∀ x σs, Dis σs φ → Srt σs x [] none 0 0 → Q (.ref x) m (σs.un φ)) : W c (call (.ref 159) []) Q E m φ := by
  have z : W c (call (.ref 159) []) (fun v m' σs => m' = m ∧ ∃ x, v = .ref x ∧ Srt σs x [] none 0 0) NoE m Led.emp := by
    refine W_make (fun dx => .exact (instObj 159 dx)) (fun dx => rfl) G (by k_is) (by k_is) (by k_is) fun x dx hx hdx hne => ?_
    refine tsInit (G.make.le (by decide)) Led.set_self ((Led.set_ne (Ne.symm hne)).trans Led.set_self) fun d hd => ⟨rfl, rfl, x, rfl, dx, d, 0, [], 0, ?_, rfl⟩
    have hdx' : d ≠ x := fun e => by rw [e, Led.set_self] at hd; cases hd
    have hddx : d ≠ dx := fun e => by rw [e, Led.set_ne (Ne.symm hne), Led.set_self] at hd; cases hd
    refine ⟨?_, Led.set_self, ?_, fun n hn => (nomatch hn), fun r l e => (by cases e), List.nodup_nil, List.nodup_nil, fun n hn => (nomatch hn), List.nodup_nil⟩
    · rw [Led.set_ne hne, Led.set_ne (Ne.symm hdx')]; exact Led.set_self
    · rw [Led.set_ne hddx]; exact Led.set_self
  have := W_framed (φ₀ := φ) (Q := Q) (E := E) z (Dis.emp φ) (fun v m' σ' d ⟨e, x, e', S⟩ => by rw [e, e']; exact h x σ' d S) (fun _ _ _ _ x => x.elim)
  rw [Led.emp_un] at this
  exact this
theorem sAdd {Q : Value → Loc → Led → Prop} {φ σs : Led} {x : Addr} {ps : List PN} {p f : Int} {node : Value} {k : PKey} {vs : List Value} {ks : List (PKey × AV)} (G : Good Mine.hd.heap_1 7 c) (hh : c.A.handled = none) (hd : Dis σs φ) (S : Srt σs x ps none p f)
    (hk : (er node).key = some k) (hz : ps.length ≤ 500) (hv : vs.map er = ks.map (·.2)) (hks : ∀ q ∈ ks, q.2.key = some q.1) (hkz : ks.length ≤ 100) (hsu : suB 1000 ps)
    (h : ∀ σs', Dis σs' φ → Srt σs' x (addP k (er node) ks ps) none p f → Q .none m (σs'.un φ)) : WC c (.call (.ref 109) ⟨.ref x :: node :: vs, []⟩) Q E m (σs.un φ) := by
  obtain ⟨dx, d, ep, ns, r, S, rfl⟩ := S
  rw [List.length_map] at hz
  refine WC_framed (Q' := fun v m' σ' => v = .none ∧ m' = m ∧ Srt σ' x (addP k (er node) ks (ns.map NI.pn)) none p f) ?_ hd fun v m' σ' d ⟨e1, e2, S'⟩ => by rw [e1, e2]; exact h σ' d S'
  exact add_ G hh S hk hz hv hks hkz hsu fun ns' ep' σ' S' hp => ⟨rfl, rfl, dx, d, ep', ns', r, S', hp⟩
theorem sPrepare {Q : Value → Loc → Led → Prop} {φ σs : Led} {x : Addr} {ps : List PN} {p f : Int} (G : Good Mine.hd.heap_1 5 c) (hh : c.A.handled = none) (hd : Dis σs φ) (S : Srt σs x ps none p f) (hz : ps.length ≤ 500) (hcl : Closed ps) (hsu : suB 1000 ps)
    (h1 : RunAll (fun k => suOf k ps) (ps.map (·.node)) (fun _ => false) none → ∀ σs', Dis σs' φ → Srt σs' x ps (some (readyOf ps)) p f → Q .none m (σs'.un φ))
    (h2 : ∀ l, RunAll (fun k => suOf k ps) (ps.map (·.node)) (fun _ => false) (some l) → ∀ σs', Dis σs' φ → Srt σs' x ps (some (readyOf ps)) p f → E (.ref 77) m (σs'.un φ)) : W c (call (.ref 114) [.ref x]) Q E m (σs.un φ) := by
  obtain ⟨dx, d, ep, ns, r, S, rfl⟩ := S
  rw [List.length_map] at hz
  have en : ns.map NI.node = (ns.map NI.pn).map (·.node) := by rw [List.map_map]; rfl
  refine W_framed (Q' := fun v m' σ' => v = .none ∧ m' = m ∧ RunAll (fun k => suOf k (ns.map NI.pn)) ((ns.map NI.pn).map (·.node)) (fun _ => false) none ∧ Srt σ' x (ns.map NI.pn) (some (readyOf (ns.map NI.pn))) p f)
    (E' := fun cls m' σ' => cls = .ref 77 ∧ m' = m ∧ (∃ l, RunAll (fun k => suOf k (ns.map NI.pn)) ((ns.map NI.pn).map (·.node)) (fun _ => false) (some l)) ∧ Srt σ' x (ns.map NI.pn) (some (readyOf (ns.map NI.pn))) p f) ?_ hd
    (fun v m' σ' d ⟨e1, e2, e3, S'⟩ => by rw [e1, e2]; exact h1 e3 σ' d S') (fun cls m' σ' d ⟨e1, e2, ⟨l, e3⟩, S'⟩ => by rw [e1, e2]; exact h2 l e3 σ' d S')
  exact prepare_ G hh S hz hcl hsu (fun hr r' σ' S' => ⟨rfl, rfl, en ▸ hr, dx, d, ep, ns, r', S', rfl⟩) (fun l hr r' σ' S' => ⟨rfl, rfl, ⟨l, en ▸ hr⟩, dx, d, ep, ns, r', S', rfl⟩)
theorem sReady {Q : Value → Loc → Led → Prop} {φ σs : Led} {x : Addr} {ps : List PN} {l : List (PKey × AV)} {p f : Int} (G : Good Mine.hd.heap_1 2 c) (hh : c.A.handled = none) (hd : Dis σs φ) (S : Srt σs x ps (some (l.map (·.2))) p f) (hz : l.length ≤ 1000) (hl : ∀ q ∈ l, q.2.key = some q.1 ∧ ∃ n ∈ ps, n.node.key = some q.1)
    (h : ∀ a σs', Dis σs' φ → Srt σs' x (outP l ps) (some []) (p + l.length) f → σs' a = some (.tuple (l.map (·.2))) → Q (.ref a) m (σs'.un φ)) : W c (call (.ref 121) [.ref x]) Q E m (σs.un φ) := by
  obtain ⟨dx, d, ep, ns, r, S, rfl⟩ := S
  refine W_framed (Q' := fun v m' σ' => m' = m ∧ ∃ a, v = .ref a ∧ Srt σ' x (outP l (ns.map NI.pn)) (some []) (p + l.length) f ∧ σ' a = some (.tuple (l.map (·.2)))) (E' := NoE) ?_ hd (fun v m' σ' d ⟨e1, a, e2, S', h3⟩ => by rw [e1, e2]; exact h a σ' d S' h3) (fun _ _ _ _ x => x.elim)
  exact getReady (l := l) G hh S hz (fun q hq => ⟨(hl q hq).1, by obtain ⟨n, hn, e⟩ := (hl q hq).2; obtain ⟨n', hn', rfl⟩ := List.mem_map.mp hn; exact ⟨n', hn', e⟩⟩) fun a ns' σ' S' hp ha => ⟨rfl, a, rfl, ⟨dx, d, ep, ns', r, S', hp⟩, ha⟩
theorem sActive {Q : Value → Loc → Led → Prop} {φ σs : Led} {x : Addr} {ps : List PN} {l : List AV} {p f : Int} (G : Good Mine.hd.heap_1 2 c) (hd : Dis σs φ) (S : Srt σs x ps (some l) p f) (hz : l.length ≤ 1000)
    (h : Q (.bool (decide (f < p) || !l.isEmpty)) m (σs.un φ)) : W c (call (.ref 128) [.ref x]) Q E m (σs.un φ) := by
  obtain ⟨dx, d, ep, ns, r, S, rfl⟩ := S
  exact isActive G (S.mono Led.le_un_left) hz h
theorem sDone {Q : Value → Loc → Led → Prop} {φ σs : Led} {x : Addr} {ps ps' : List PN} {l l' : List AV} {p f : Int} {vs : List Value} {ks : List (PKey × AV)} (G : Good Mine.hd.heap_1 3 c) (hh : c.A.handled = none) (hd : Dis σs φ) (S : Srt σs x ps (some l) p f)
    (hv : vs.map er = ks.map (·.2)) (hks : ∀ q ∈ ks, q.2.key = some q.1) (hkz : ks.length ≤ 100) (hcl : Closed ps) (hsu : suB 1000 ps) (hlz : l.length ≤ 1000) (hdn : doneP (ks.map (·.1)) (ps, l) = some (ps', l'))
    (h : ∀ σs', Dis σs' φ → Srt σs' x ps' (some l') p (f + ks.length) → Q .none m (σs'.un φ)) : WC c (.call (.ref 142) ⟨.ref x :: vs, []⟩) Q E m (σs.un φ) := by
  obtain ⟨dx, d, ep, ns, r, S, rfl⟩ := S
  refine WC_framed (Q' := fun v m' σ' => v = .none ∧ m' = m ∧ Srt σ' x ps' (some l') p (f + ks.length)) ?_ hd fun v m' σ' d ⟨e1, e2, S'⟩ => by rw [e1, e2]; exact h σ' d S'
  exact done_ G hh S hv hks hkz hcl hsu hlz hdn fun ns' σ' S' hp => ⟨rfl, rfl, dx, d, ep, ns', r, S', hp⟩
end
end Mine
end
section
namespace Mine
/-! the sorter's nodes as functions of their keys -/
noncomputable abbrev kOf (v : AV) : PKey := (kp v).1
noncomputable def mkPS (nodes : List AV) (cnp : PKey → Int) (csu : PKey → List AV) : List PN := nodes.map fun v => ⟨v, cnp (kOf v), csu (kOf v)⟩
/-- all have keys, and no two the same -/
structure Nodes (nodes : List AV) : Prop where
  has : ∀ v ∈ nodes, v.key = some (kOf v)
  nodup : (nodes.map kOf).Nodup
theorem kOf_key {v : AV} {k : PKey} (h : v.key = some k) : kOf v = k := by unfold kOf kp; rw [h]; rfl
noncomputable def hasK (nodes : List AV) (k : PKey) : Bool := nodes.any fun v => decide (kOf v = k)
noncomputable def nAdd (nodes : List AV) (v : AV) : List AV := if hasK nodes (kOf v) then nodes else nodes ++ [v]
theorem hasK_iff {nodes : List AV} {k : PKey} : hasK nodes k = true ↔ k ∈ nodes.map kOf := by
  unfold hasK
  rw [List.any_eq_true, List.mem_map]
  simp
theorem hasK_nAdd {nodes : List AV} {v : AV} {k : PKey} : hasK (nAdd nodes v) k = (hasK nodes k || decide (kOf v = k)) := by
  unfold nAdd
  split
  · rename_i h
    by_cases q : kOf v = k
    · subst q; simp [h]
    · simp [q]
  · unfold hasK; simp
theorem Nodes.add {nodes : List AV} {v : AV} (h : Nodes nodes) (hv : v.key = some (kOf v)) : Nodes (nAdd nodes v) := by
  unfold nAdd
  split
  · exact h
  · rename_i hn
    refine ⟨fun u hu => ?_, ?_⟩
    · rcases List.mem_append.mp hu with q | q
      · exact h.has u q
      · rw [List.mem_singleton.mp q]; exact hv
    · rw [List.map_append, List.nodup_append]
      refine ⟨h.nodup, by simp, fun a ha b hb e => ?_⟩
      simp at hb
      subst e hb
      exact hn (hasK_iff.mpr ha)
theorem key_iff {nodes : List AV} (h : Nodes nodes) {v : AV} (hv : v ∈ nodes) {k : PKey} : v.key = some k ↔ kOf v = k :=
  ⟨kOf_key, fun e => by rw [h.has v hv, e]⟩
/-- absent nodes are told nothing -/
noncomputable def Abs (nodes : List AV) (cnp : PKey → Int) (csu : PKey → List AV) : Prop := ∀ k, hasK nodes k = false → cnp k = 0 ∧ csu k = []
theorem ens_mk {nodes : List AV} {cnp : PKey → Int} {csu : PKey → List AV} {v : AV} {k : PKey} (h : Nodes nodes) (hv : v.key = some k) (ha : Abs nodes cnp csu) : ensP k v (mkPS nodes cnp csu) = mkPS (nAdd nodes v) cnp csu := by
  have hk := kOf_key hv
  have e : (mkPS nodes cnp csu).any (fun n => decide (n.node.key = some k)) = hasK nodes k := by
    unfold mkPS hasK
    rw [List.any_map]
    rw [Bool.eq_iff_iff, List.any_eq_true, List.any_eq_true]
    constructor
    · rintro ⟨u, hu, q⟩; exact ⟨u, hu, decide_eq_true ((key_iff h hu).mp (of_decide_eq_true q))⟩
    · rintro ⟨u, hu, q⟩; exact ⟨u, hu, decide_eq_true ((key_iff h hu).mpr (of_decide_eq_true q))⟩
  unfold ensP nAdd
  rw [e, hk]
  split
  · rfl
  · rename_i hn
    have hf : hasK nodes k = false := by simpa using hn
    unfold mkPS
    rw [List.map_append, List.map_singleton, hk, (ha k hf).1, (ha k hf).2]
theorem upd_mk {nodes : List AV} {cnp : PKey → Int} {csu : PKey → List AV} {k : PKey} {g : PN → PN} {fn : Int → Int} {fs : List AV → List AV} (h : Nodes nodes) (hg : ∀ v np su, g ⟨v, np, su⟩ = ⟨v, fn np, fs su⟩) :
    updP k g (mkPS nodes cnp csu) = mkPS nodes (fun k' => if k' = k then fn (cnp k') else cnp k') (fun k' => if k' = k then fs (csu k') else csu k') := by
  unfold updP mkPS
  rw [List.map_map]
  refine List.map_congr_left fun v hv => ?_
  show (if v.key = some k then _ else _) = _
  by_cases q : kOf v = k
  · rw [if_pos ((key_iff h hv).mpr q), hg]; simp only [q, if_true]
  · rw [if_neg (fun e => q ((key_iff h hv).mp e))]; simp only [q, if_false]
theorem npOf_mk {nodes : List AV} {cnp : PKey → Int} {csu : PKey → List AV} {k : PKey} (h : Nodes nodes) (hk : hasK nodes k = true) : pOf k (mkPS nodes cnp csu) = some ⟨((nodes.find? fun v => decide (kOf v = k)).getD .none), cnp k, csu k⟩ := by
  unfold pOf mkPS
  rw [List.find?_map]
  have e : (nodes.find? ((fun n : PN => decide (n.node.key = some k)) ∘ fun v => (⟨v, cnp (kOf v), csu (kOf v)⟩ : PN))) = nodes.find? fun v => decide (kOf v = k) := by
    have : ∀ (l : List AV), (∀ v ∈ l, v.key = some (kOf v)) → (l.find? ((fun n : PN => decide (n.node.key = some k)) ∘ fun v => (⟨v, cnp (kOf v), csu (kOf v)⟩ : PN))) = l.find? fun v => decide (kOf v = k) := by
      intro l hl
      induction l with
      | nil => rfl
      | cons v r ih =>
        have hv := hl v (.head _)
        rw [List.find?_cons, List.find?_cons, ih fun u hu => hl u (.tail _ hu)]
        have : ((fun n : PN => decide (n.node.key = some k)) ∘ fun v => (⟨v, cnp (kOf v), csu (kOf v)⟩ : PN)) v = decide (kOf v = k) := by
          show decide (v.key = some k) = _
          rw [hv]
          by_cases q : kOf v = k <;> simp [q]
        rw [this]
    exact this nodes h.has
  rw [e]
  cases q : nodes.find? fun v => decide (kOf v = k) with
  | none =>
    have := List.find?_eq_none.mp q
    rw [hasK, List.any_eq_true] at hk
    obtain ⟨v, hv, r⟩ := hk
    exact absurd r (this v hv)
  | some v =>
    have := List.find?_some q
    have : kOf v = k := by simpa using this
    simp [this]
theorem npOf_mk' {nodes : List AV} {cnp : PKey → Int} {csu : PKey → List AV} {k : PKey} (h : Nodes nodes) (hk : hasK nodes k = true) : npOf k (mkPS nodes cnp csu) = cnp k := by unfold npOf; rw [npOf_mk h hk]; rfl
theorem suOf_mk' {nodes : List AV} {cnp : PKey → Int} {csu : PKey → List AV} {k : PKey} (h : Nodes nodes) (hk : hasK nodes k = true) : suOf k (mkPS nodes cnp csu) = csu k := by unfold suOf; rw [npOf_mk h hk]; rfl
theorem pOf_none {nodes : List AV} {cnp : PKey → Int} {csu : PKey → List AV} {k : PKey} (h : Nodes nodes) (hk : hasK nodes k = false) : pOf k (mkPS nodes cnp csu) = none := by
  unfold pOf
  refine List.find?_eq_none.mpr fun n hn q => ?_
  obtain ⟨v, hv, rfl⟩ := List.mem_map.mp hn
  have := (key_iff h hv).mp (of_decide_eq_true q)
  have : hasK nodes k = true := hasK_iff.mpr (List.mem_map.mpr ⟨v, hv, this⟩)
  rw [this] at hk; cases hk
theorem suOf_mk {nodes : List AV} {cnp : PKey → Int} {csu : PKey → List AV} {k : PKey} (h : Nodes nodes) (ha : Abs nodes cnp csu) : suOf k (mkPS nodes cnp csu) = csu k := by
  cases hk : hasK nodes k with
  | true => exact suOf_mk' h hk
  | false => unfold suOf; rw [pOf_none h hk]; exact (ha k hk).2.symm
/-! what the adds make -/
/-- a step: the key ahead, the node behind it -/
noncomputable abbrev Steps := List (PKey × AV)
noncomputable def npF (st : Steps) (k : PKey) : Int := (st.filter fun s => decide (kOf s.2 = k)).length
noncomputable def suF (st : Steps) (k : PKey) : List AV := (st.filter fun s => decide (s.1 = k)).map (·.2)
noncomputable abbrev Add := AV × List AV
noncomputable def Add.steps (a : Add) : Steps := a.2.map fun u => (kOf u, a.1)
noncomputable def Add.ok (a : Add) : Prop := a.1.key = some (kOf a.1) ∧ ∀ u ∈ a.2, u.key = some (kOf u)
noncomputable def addsP (adds : List Add) : List PN := adds.foldl (fun ps a => addP (kOf a.1) a.1 (a.2.map kp) ps) []
noncomputable def stepsOf (adds : List Add) : Steps := adds.flatMap Add.steps
noncomputable def namingOf (adds : List Add) : List AV := adds.flatMap fun a => a.1 :: a.2
noncomputable def nodesOf (adds : List Add) : List AV := (namingOf adds).foldl nAdd []
theorem suF_append (s t : Steps) (k : PKey) : suF (s ++ t) k = suF s k ++ suF t k := by unfold suF; rw [List.filter_append, List.map_append]
theorem npF_append (s t : Steps) (k : PKey) : npF (s ++ t) k = npF s k + npF t k := by unfold npF; rw [List.filter_append, List.length_append]; omega
theorem addStep_fold {v : AV} : ∀ (us : List AV) (nodes : List AV) (cnp : PKey → Int) (csu : PKey → List AV), Nodes nodes → (∀ u ∈ us, u.key = some (kOf u)) → Abs nodes cnp csu →
    (us.map kp).foldl (addStep v) (mkPS nodes cnp csu) = mkPS (us.foldl nAdd nodes) cnp (fun k => csu k ++ suF (us.map fun u => (kOf u, v)) k) ∧ Nodes (us.foldl nAdd nodes) ∧ Abs (us.foldl nAdd nodes) cnp (fun k => csu k ++ suF (us.map fun u => (kOf u, v)) k)
  | [], nodes, cnp, csu, hn, _, ha => by
    refine ⟨?_, hn, fun k hk => ⟨(ha k hk).1, by simp [suF, (ha k hk).2]⟩⟩
    simp [suF]
  | u :: us, nodes, cnp, csu, hn, hu, ha => by
    have hku := hu u (.head _)
    have e1 : addStep v (mkPS nodes cnp csu) (kp u) = mkPS (nAdd nodes u) cnp (fun k => if k = kOf u then csu k ++ [v] else csu k) := by
      unfold addStep
      rw [show (kp u).2 = u from rfl, ens_mk hn hku ha, upd_mk (fn := fun i => i) (fs := fun l => l ++ [v]) (hn.add hku) (fun _ _ _ => rfl)]
      congr 1
      funext k; split <;> rfl
    have ha1 : Abs (nAdd nodes u) cnp (fun k => if k = kOf u then csu k ++ [v] else csu k) := fun k hk => by
      rw [hasK_nAdd, Bool.or_eq_false_iff] at hk
      have hne : k ≠ kOf u := fun e => by have := of_decide_eq_false hk.2; exact this e.symm
      exact ⟨(ha k hk.1).1, by show (if k = kOf u then csu k ++ [v] else csu k) = []; rw [if_neg hne]; exact (ha k hk.1).2⟩
    obtain ⟨i1, i2, i3⟩ := addStep_fold (v := v) us (nAdd nodes u) cnp _ (hn.add hku) (fun w hw => hu w (.tail _ hw)) ha1
    have ef : (fun k => (if k = kOf u then csu k ++ [v] else csu k) ++ suF (us.map fun u => (kOf u, v)) k) = fun k => csu k ++ suF ((u :: us).map fun u => (kOf u, v)) k := by
      funext k
      unfold suF
      rw [List.map_cons, List.filter_cons]
      by_cases q : k = kOf u
      · subst q; simp
      · rw [if_neg q, if_neg (by simpa using fun e => q e.symm)]
    rw [List.map_cons, List.foldl_cons, List.foldl_cons, e1, i1, ef]
    rw [ef] at i3
    exact ⟨rfl, i2, i3⟩
theorem addP_mk {nodes : List AV} {st : Steps} {a : Add} (hn : Nodes nodes) (ha : Abs nodes (npF st) (suF st)) (ok : a.ok) :
    addP (kOf a.1) a.1 (a.2.map kp) (mkPS nodes (npF st) (suF st)) = mkPS ((a.1 :: a.2).foldl nAdd nodes) (npF (st ++ a.steps)) (suF (st ++ a.steps)) ∧ Nodes ((a.1 :: a.2).foldl nAdd nodes) ∧ Abs ((a.1 :: a.2).foldl nAdd nodes) (npF (st ++ a.steps)) (suF (st ++ a.steps)) := by
  unfold addP
  rw [ens_mk hn ok.1 ha, upd_mk (fn := fun i => i + (a.2.map kp).length) (fs := fun l => l) (hn.add ok.1) (fun _ _ _ => rfl)]
  have enp : (fun k' => if k' = kOf a.1 then npF st k' + (a.2.map kp).length else npF st k') = npF (st ++ a.steps) := by
    funext k
    rw [npF_append]
    have : npF a.steps k = if k = kOf a.1 then (a.2.length : Int) else 0 := by
      unfold npF Add.steps
      by_cases q : k = kOf a.1
      · subst q
        rw [if_pos rfl, List.filter_eq_self.mpr (fun x hx => by obtain ⟨u, _, rfl⟩ := List.mem_map.mp hx; simp)]; simp
      · rw [if_neg q, List.filter_eq_nil_iff.mpr (fun x hx => by obtain ⟨u, _, rfl⟩ := List.mem_map.mp hx; simpa using fun e => q e.symm)]; simp
    rw [this, List.length_map]
    split <;> simp
  have esu : (fun k' => if k' = kOf a.1 then suF st k' else suF st k') = suF st := by funext k; split <;> rfl
  rw [enp, esu]
  have ha1 : Abs (nAdd nodes a.1) (npF (st ++ a.steps)) (suF st) := fun k hk => by
    rw [hasK_nAdd, Bool.or_eq_false_iff] at hk
    have hne : ¬ kOf a.1 = k := of_decide_eq_false hk.2
    refine ⟨?_, (ha k hk.1).2⟩
    rw [← enp]
    show (if k = kOf a.1 then npF st k + (a.2.map kp).length else npF st k) = 0
    rw [if_neg (Ne.symm hne)]; exact (ha k hk.1).1
  obtain ⟨i1, i2, i3⟩ := addStep_fold (v := a.1) a.2 (nAdd nodes a.1) (npF (st ++ a.steps)) (suF st) (hn.add ok.1) ok.2 ha1
  have ef : (fun k => suF st k ++ suF (a.2.map fun u => (kOf u, a.1)) k) = suF (st ++ a.steps) := by funext k; rw [suF_append]; rfl
  rw [ef] at i1 i3
  exact ⟨i1, i2, i3⟩
theorem addsP_mk : ∀ (adds : List Add), (∀ a ∈ adds, a.ok) → addsP adds = mkPS (nodesOf adds) (npF (stepsOf adds)) (suF (stepsOf adds)) ∧ Nodes (nodesOf adds) ∧ Abs (nodesOf adds) (npF (stepsOf adds)) (suF (stepsOf adds)) := by
  intro adds
  have key : ∀ (adds : List Add) (nodes : List AV) (st : Steps), (∀ a ∈ adds, a.ok) → Nodes nodes → Abs nodes (npF st) (suF st) →
      adds.foldl (fun ps a => addP (kOf a.1) a.1 (a.2.map kp) ps) (mkPS nodes (npF st) (suF st)) = mkPS ((namingOf adds).foldl nAdd nodes) (npF (st ++ stepsOf adds)) (suF (st ++ stepsOf adds)) ∧ Nodes ((namingOf adds).foldl nAdd nodes) ∧ Abs ((namingOf adds).foldl nAdd nodes) (npF (st ++ stepsOf adds)) (suF (st ++ stepsOf adds)) := by
    intro adds
    induction adds with
    | nil => intro nodes st _ hn ha; simp only [List.foldl_nil, namingOf, stepsOf, List.flatMap_nil, List.append_nil]; exact ⟨trivial, hn, ha⟩
    | cons a r ih =>
      intro nodes st hok hn ha
      obtain ⟨e1, h1, h2⟩ := addP_mk hn ha (hok a (.head _))
      rw [List.foldl_cons, e1]
      have := ih _ _ (fun b hb => hok b (.tail _ hb)) h1 h2
      rw [namingOf, List.flatMap_cons, List.foldl_append, stepsOf, List.flatMap_cons, ← List.append_assoc]
      exact this
  intro hok
  have := key adds [] [] hok ⟨fun v hv => (nomatch hv), List.nodup_nil⟩ (fun k _ => ⟨rfl, rfl⟩)
  rw [List.nil_append] at this
  exact this
end Mine
end
section
namespace Mine
theorem mkPS_congr {nodes : List AV} {cnp cnp' : PKey → Int} {csu : PKey → List AV} (h : ∀ k, hasK nodes k = true → cnp k = cnp' k) : mkPS nodes cnp csu = mkPS nodes cnp' csu := by
  unfold mkPS
  refine List.map_congr_left fun v hv => ?_
  rw [h (kOf v) (hasK_iff.mpr (List.mem_map.mpr ⟨v, hv, rfl⟩))]
theorem outP_mk {nodes : List AV} {csu : PKey → List AV} (h : Nodes nodes) : ∀ (l : List (PKey × AV)) (cnp : PKey → Int), outP l (mkPS nodes cnp csu) = mkPS nodes (fun k => if k ∈ l.map (·.1) then -1 else cnp k) csu
  | [], cnp => by simp [outP]
  | q :: l, cnp => by
    have e : outP (q :: l) (mkPS nodes cnp csu) = outP l (updP q.1 (fun n => { n with np := -1 }) (mkPS nodes cnp csu)) := rfl
    rw [e, upd_mk (fn := fun _ => -1) (fs := fun l => l) h (fun _ _ _ => rfl)]
    have es : (fun k' => if k' = q.1 then csu k' else csu k') = csu := by funext k; split <;> rfl
    rw [es, outP_mk h l]
    refine mkPS_congr fun k _ => ?_
    rw [List.map_cons]
    by_cases q1 : k ∈ l.map (·.1)
    · rw [if_pos q1, if_pos (.tail _ q1)]
    · rw [if_neg q1]
      by_cases q2 : k = q.1
      · subst q2; rw [if_pos rfl, if_pos (.head _)]
      · rw [if_neg q2, if_neg (fun z => by rcases List.mem_cons.mp z with r | r; exact q2 r; exact q1 r)]
noncomputable def cnt (k : PKey) (l : List (PKey × AV)) : Nat := (l.filter fun s => decide (s.1 = k)).length
theorem cnt_cons (k : PKey) (s : PKey × AV) (l : List (PKey × AV)) : cnt k (s :: l) = (if s.1 = k then 1 else 0) + cnt k l := by
  unfold cnt
  rw [List.filter_cons]
  by_cases q : s.1 = k
  · simp [q]; omega
  · simp [q]
theorem cnt_pos {k : PKey} {l : List (PKey × AV)} (h : k ∈ l.map (·.1)) : 0 < cnt k l := by
  obtain ⟨s, hs, e⟩ := List.mem_map.mp h
  unfold cnt
  exact List.length_pos_of_mem (List.mem_filter.mpr ⟨hs, decide_eq_true e⟩)
theorem cnt_zero {k : PKey} {l : List (PKey × AV)} (h : k ∉ l.map (·.1)) : cnt k l = 0 := by
  unfold cnt
  rw [List.filter_eq_nil_iff.mpr]; rfl
  intro s hs q
  exact h (List.mem_map.mpr ⟨s, hs, of_decide_eq_true q⟩)
/-- the last of each key for which P holds -/
noncomputable def lastsBy (P : PKey → Bool) : List (PKey × AV) → List (PKey × AV)
  | [] => []
  | s :: r => if s.1 ∈ r.map (·.1) then lastsBy P r else if P s.1 then s :: lastsBy P r else lastsBy P r
theorem lastsBy_congr {P P' : PKey → Bool} : ∀ {l : List (PKey × AV)}, (∀ k ∈ l.map (·.1), P k = P' k) → lastsBy P l = lastsBy P' l
  | [], _ => rfl
  | s :: r, h => by
    unfold lastsBy
    rw [h s.1 (.head _), lastsBy_congr fun k hk => h k (.tail _ hk)]
theorem lastsBy_mem {P : PKey → Bool} : ∀ {l : List (PKey × AV)} {k : PKey}, k ∈ (lastsBy P l).map (·.1) ↔ k ∈ l.map (·.1) ∧ P k = true
  | [], k => by simp [lastsBy]
  | s :: r, k => by
    have ih := lastsBy_mem (P := P) (l := r) (k := k)
    unfold lastsBy
    split
    · rename_i h
      rw [ih, List.map_cons, List.mem_cons]
      constructor
      · exact fun ⟨a, b⟩ => ⟨.inr a, b⟩
      · rintro ⟨a | a, b⟩
        · subst a; exact ⟨h, b⟩
        · exact ⟨a, b⟩
    · split
      · rename_i h
        rw [List.map_cons, List.mem_cons, ih, List.map_cons, List.mem_cons]
        constructor
        · rintro (a | a)
          · subst a; exact ⟨.inl rfl, h⟩
          · exact ⟨.inr a.1, a.2⟩
        · rintro ⟨a | a, b⟩
          · exact .inl a
          · exact .inr ⟨a, b⟩
      · rename_i h1 h2
        rw [ih, List.map_cons, List.mem_cons]
        constructor
        · exact fun ⟨a, b⟩ => ⟨.inr a, b⟩
        · rintro ⟨a | a, b⟩
          · subst a; exact absurd b h2
          · exact ⟨a, b⟩
theorem lastsBy_sub {P : PKey → Bool} : ∀ {l : List (PKey × AV)} {s : PKey × AV}, s ∈ lastsBy P l → s ∈ l
  | [], s, h => by cases h
  | t :: r, s, h => by
    unfold lastsBy at h
    split at h
    · exact .tail _ (lastsBy_sub h)
    · split at h
      · rcases List.mem_cons.mp h with e | e
        · subst e; exact .head _
        · exact .tail _ (lastsBy_sub e)
      · exact .tail _ (lastsBy_sub h)
theorem lastsBy_nodup {P : PKey → Bool} : ∀ {l : List (PKey × AV)}, ((lastsBy P l).map (·.1)).Nodup
  | [] => List.nodup_nil
  | s :: r => by
    unfold lastsBy
    split
    · exact lastsBy_nodup
    · rename_i h
      split
      · rw [List.map_cons, List.nodup_cons]
        exact ⟨fun z => h (lastsBy_mem.mp z).1, lastsBy_nodup⟩
      · exact lastsBy_nodup
theorem sucFold_mk {nodes : List AV} {csu : PKey → List AV} (h : Nodes nodes) : ∀ (l : List (PKey × AV)) (cnp : PKey → Int) (R : List AV), (∀ s ∈ l, hasK nodes s.1 = true) → (∀ k ∈ l.map (·.1), (cnt k l : Int) ≤ cnp k) →
    l.foldl sucStep (mkPS nodes cnp csu, R) = (mkPS nodes (fun k => cnp k - cnt k l) csu, R ++ (lastsBy (fun k => cnp k == cnt k l) l).map (·.2))
  | [], cnp, R, _, _ => by
    rw [List.foldl_nil]
    congr 1
    · exact mkPS_congr fun k _ => by simp [cnt]
    · simp [lastsBy]
  | s :: r, cnp, R, hn, hc => by
    have es : (fun k' => if k' = s.1 then csu k' else csu k') = csu := by funext k; split <;> rfl
    have hs := hn s (.head _)
    have e1 : sucStep (mkPS nodes cnp csu, R) s = (mkPS nodes (fun k => if k = s.1 then cnp k - 1 else cnp k) csu, if cnp s.1 = 1 then R ++ [s.2] else R) := by
      unfold sucStep
      rw [upd_mk (fn := fun i => i - 1) (fs := fun l => l) h (fun _ _ _ => rfl), es, npOf_mk' h hs]
    have cc : ∀ k, cnt k (s :: r) = (if s.1 = k then 1 else 0) + cnt k r := fun k => cnt_cons k s r
    rw [List.foldl_cons, e1, sucFold_mk h r _ _ (fun t ht => hn t (.tail _ ht)) (fun k hk => ?_)]
    · have hP : ∀ k, ((if k = s.1 then cnp k - 1 else cnp k) == (cnt k r : Int)) = (cnp k == (cnt k (s :: r) : Int)) := fun k => by
        rw [cc k]
        by_cases q : s.1 = k
        · subst q
          rw [if_pos rfl, if_pos rfl, Bool.eq_iff_iff, beq_iff_eq, beq_iff_eq]
          omega
        · rw [if_neg (Ne.symm q), if_neg q, Bool.eq_iff_iff, beq_iff_eq, beq_iff_eq]
          omega
      congr 1
      · refine mkPS_congr fun k _ => ?_
        rw [cc k]
        by_cases q : s.1 = k
        · subst q; rw [if_pos rfl, if_pos rfl]; omega
        · rw [if_neg (Ne.symm q), if_neg q]; omega
      · rw [lastsBy_congr (fun k _ => hP k)]
        conv => rhs; unfold lastsBy
        by_cases hin : s.1 ∈ r.map (·.1)
        · have h2 : ¬ cnp s.1 = 1 := fun e => by
            have := hc s.1 (.head _)
            rw [cc, if_pos rfl] at this
            have := cnt_pos hin
            omega
          rw [if_neg h2, if_pos hin]
        · rw [if_neg hin]
          have hz := cnt_zero hin
          have hb : (cnp s.1 == (cnt s.1 (s :: r) : Int)) = decide (cnp s.1 = 1) := by
            rw [cc, if_pos rfl, hz, Bool.eq_iff_iff, beq_iff_eq, decide_eq_true_eq]
            omega
          rw [hb]
          by_cases q : cnp s.1 = 1
          · rw [if_pos q, if_pos (decide_eq_true q), List.map_cons, List.append_assoc]; rfl
          · rw [if_neg q, if_neg (by simpa using q)]
    · have := hc k (.tail _ hk)
      rw [cc k] at this
      show (cnt k r : Int) ≤ if k = s.1 then cnp k - 1 else cnp k
      by_cases q : s.1 = k
      · subst q; rw [if_pos rfl] at this ⊢; omega
      · rw [if_neg (Ne.symm q)]; rw [if_neg q] at this; omega
/-- how many a node waits for, D done, O handed out -/
noncomputable def npD (st : Steps) (D O : List PKey) (k : PKey) : Int := if k ∈ D then -2 else if k ∈ O then -1 else ((st.filter fun s => decide (kOf s.2 = k ∧ s.1 ∉ D)).length : Int)
theorem npD_nil (st : Steps) : npD st [] [] = npF st := by
  funext k
  unfold npD npF
  simp
/-- where a sorter stands -/
structure SSt (nodes : List AV) (st : Steps) (D O : List PKey) (R : List (PKey × AV)) : Prop where
  nds : Nodes nodes
  stn : ∀ s ∈ st, hasK nodes s.1 = true ∧ hasK nodes (kOf s.2) = true ∧ s.2.key = some (kOf s.2)
  on : ∀ k ∈ O, hasK nodes k = true
  dO : ∀ k ∈ D, k ∈ O
  closed : ∀ s ∈ st, kOf s.2 ∈ O → s.1 ∈ D
  rdy : ∀ k, k ∈ R.map (·.1) ↔ hasK nodes k = true ∧ k ∉ O ∧ ∀ s ∈ st, kOf s.2 = k → s.1 ∈ D
  rnd : (R.map (·.1)).Nodup
  rk : ∀ q ∈ R, q.2.key = some q.1
noncomputable abbrev psD (nodes : List AV) (st : Steps) (D O : List PKey) : List PN := mkPS nodes (npD st D O) (suF st)
theorem SSt.start {nodes : List AV} {st : Steps} (hn : Nodes nodes) (hs : ∀ s ∈ st, hasK nodes s.1 = true ∧ hasK nodes (kOf s.2) = true ∧ s.2.key = some (kOf s.2)) :
    SSt nodes st [] [] ((nodes.filter fun v => npF st (kOf v) == 0).map kp) := by
  refine ⟨hn, hs, fun k hk => (nomatch hk), fun k hk => (nomatch hk), fun s _ h => (nomatch h), fun k => ?_, ?_, fun q hq => ?_⟩
  · rw [List.map_map]
    have e : k ∈ (nodes.filter fun v => npF st (kOf v) == 0).map ((·.1) ∘ kp) ↔ hasK nodes k = true ∧ npF st k = 0 := by
      rw [hasK_iff]
      constructor
      · intro h
        obtain ⟨v, hv, rfl⟩ := List.mem_map.mp h
        obtain ⟨h1, h2⟩ := List.mem_filter.mp hv
        exact ⟨List.mem_map.mpr ⟨v, h1, rfl⟩, by simpa using h2⟩
      · rintro ⟨h1, h2⟩
        obtain ⟨v, hv, rfl⟩ := List.mem_map.mp h1
        exact List.mem_map.mpr ⟨v, List.mem_filter.mpr ⟨hv, by simpa using h2⟩, rfl⟩
    rw [e]
    refine and_congr_right fun _ => ?_
    unfold npF
    constructor
    · intro h
      refine ⟨List.not_mem_nil, fun s hs' e => ?_⟩
      have h0 : (st.filter fun s => decide (kOf s.2 = k)).length = 0 := by omega
      have := List.filter_eq_nil_iff.mp (List.length_eq_zero_iff.mp h0) s hs'
      simp [e] at this
    · rintro ⟨_, h⟩
      have : (st.filter fun s => decide (kOf s.2 = k)) = [] := List.filter_eq_nil_iff.mpr fun s hs' q => by
        have := h s hs' (of_decide_eq_true q); cases this
      rw [this]; rfl
  · rw [List.map_map]
    exact (hn.nodup.sublist ((List.filter_sublist ..).map _))
  · obtain ⟨v, hv, rfl⟩ := List.mem_map.mp hq
    exact hn.has v (List.mem_filter.mp hv).1
theorem readyOf_mk {nodes : List AV} {st : Steps} : (((mkPS nodes (npF st) (suF st)).filter fun n => n.np == 0).map (·.node)) = ((nodes.filter fun v => npF st (kOf v) == 0).map kp).map (·.2) := by
  unfold mkPS
  rw [List.filter_map, List.map_map, List.map_map]
  show List.map _ (List.filter (fun v => npF st (kOf v) == 0) nodes) = _
  rfl
variable {nodes : List AV} {st : Steps} {D O : List PKey} {R : List (PKey × AV)}
/-- what is ready is handed out -/
theorem SSt.out (S : SSt nodes st D O R) : SSt nodes st D (O ++ R.map (·.1)) [] ∧ outP R (psD nodes st D O) = psD nodes st D (O ++ R.map (·.1)) := by
  refine ⟨⟨S.nds, S.stn, fun k hk => ?_, fun k hk => List.mem_append_left _ (S.dO k hk), fun s hs h => ?_, fun k => ?_, List.nodup_nil, fun q hq => (nomatch hq)⟩, ?_⟩
  · rcases List.mem_append.mp hk with q | q
    · exact S.on k q
    · exact ((S.rdy k).mp q).1
  · rcases List.mem_append.mp h with q | q
    · exact S.closed s hs q
    · exact ((S.rdy _).mp q).2.2 s hs rfl
  · constructor
    · intro h; cases h
    · rintro ⟨h1, h2, h3⟩
      exfalso
      apply h2
      by_cases q : k ∈ O
      · exact List.mem_append_left _ q
      · exact List.mem_append_right _ ((S.rdy k).mpr ⟨h1, q, h3⟩)
  · rw [psD, outP_mk S.nds]
    refine mkPS_congr fun k _ => ?_
    unfold npD
    by_cases q : k ∈ R.map (·.1)
    · have hO := ((S.rdy k).mp q).2.1
      rw [if_pos q, if_neg (fun z => hO (S.dO k z)), if_pos (List.mem_append_right _ q)]
    · rw [if_neg q]
      by_cases q1 : k ∈ D
      · rw [if_pos q1, if_pos q1]
      · rw [if_neg q1, if_neg q1]
        by_cases q2 : k ∈ O
        · rw [if_pos q2, if_pos (List.mem_append_left _ q2)]
        · rw [if_neg q2, if_neg (fun z => by rcases List.mem_append.mp z with r | r; exact q2 r; exact q r)]
theorem cnt_suF (k k' : PKey) : cnt k' ((suF st k).map kp) = (st.filter fun s => decide (kOf s.2 = k' ∧ s.1 = k)).length := by
  unfold cnt suF
  rw [List.map_map, List.filter_map, List.length_map, List.filter_filter]
  congr 1
  refine List.filter_congr fun s _ => ?_
  show (decide (kOf s.2 = k') && decide (s.1 = k)) = _
  by_cases a : kOf s.2 = k' <;> by_cases b : s.1 = k <;> simp [a, b]
theorem len_split {α : Type} {p q r : α → Bool} (h : ∀ s, p s = (q s || r s)) (hd : ∀ s, q s = true → r s = false) : ∀ (l : List α), (l.filter p).length = (l.filter q).length + (l.filter r).length
  | [] => rfl
  | s :: l => by
    have ih := len_split h hd l
    rw [List.filter_cons, List.filter_cons, List.filter_cons, h s]
    cases hq : q s with
    | true => rw [hd s hq]; simp [ih]; omega
    | false => cases hr : r s <;> simp [ih]; omega
theorem filter_split (k k' : PKey) (hk : k ∉ D) : (st.filter fun s => decide (kOf s.2 = k' ∧ s.1 ∉ D)).length = (st.filter fun s => decide (kOf s.2 = k' ∧ s.1 ∉ k :: D)).length + (st.filter fun s => decide (kOf s.2 = k' ∧ s.1 = k)).length := by
  refine len_split (fun s => ?_) (fun s hs => ?_) st
  · by_cases a : kOf s.2 = k' <;> by_cases b : s.1 = k <;> by_cases d : s.1 ∈ D <;> simp [a, b, d]
    all_goals exact hk
  · have := of_decide_eq_true hs
    exact decide_eq_false fun z => this.2 (z.2 ▸ .head _)
/-- what a node that is done lets go -/
noncomputable def newly (st : Steps) (D O : List PKey) (k : PKey) : List (PKey × AV) := lastsBy (fun k' => npD st D O k' == (cnt k' ((suF st k).map kp) : Int)) ((suF st k).map kp)
theorem SSt.done (S : SSt nodes st D O R) {k : PKey} (hO : k ∈ O) (hD : k ∉ D) :
    SSt nodes st (k :: D) O (R ++ newly st D O k) ∧ npOf k (psD nodes st D O) = -1 ∧ doneStep (psD nodes st D O, R.map (·.2)) k = (psD nodes st (k :: D) O, (R ++ newly st D O k).map (·.2)) := by
  have hkn := S.on k hO
  have hsuk : suOf k (psD nodes st D O) = suF st k := suOf_mk' S.nds hkn
  have hsk : ∀ s ∈ (suF st k).map kp, ∃ t ∈ st, t.1 = k ∧ kp t.2 = s := fun s hs => by
    obtain ⟨v, hv, rfl⟩ := List.mem_map.mp hs
    obtain ⟨t, ht, rfl⟩ := List.mem_map.mp hv
    obtain ⟨h1, h2⟩ := List.mem_filter.mp ht
    exact ⟨t, h1, of_decide_eq_true h2, rfl⟩
  have hnO : ∀ k' ∈ ((suF st k).map kp).map (·.1), k' ∉ O := fun k' hk' z => by
    obtain ⟨s, hs, rfl⟩ := List.mem_map.mp hk'
    obtain ⟨t, ht, h1, rfl⟩ := hsk s hs
    have := S.closed t ht z
    rw [h1] at this; exact hD this
  have es : (fun k' => if k' = k then suF st k' else suF st k') = suF st := by funext k'; split <;> rfl
  have eF : ∀ k', k' ∉ O → npD st D O k' = (st.filter fun s => decide (kOf s.2 = k' ∧ s.1 ∉ D)).length := fun k' h => by
    unfold npD; rw [if_neg (fun z => h (S.dO k' z)), if_neg h]
  have hnpk : npD st D O k = -1 := by unfold npD; rw [if_neg hD, if_pos hO]
  have step : doneStep (psD nodes st D O, R.map (·.2)) k = (psD nodes st (k :: D) O, (R ++ newly st D O k).map (·.2)) := by
    unfold doneStep
    rw [hsuk, show (psD nodes st D O) = mkPS nodes (npD st D O) (suF st) from rfl, upd_mk (fn := fun _ => -2) (fs := fun l => l) S.nds (fun _ _ _ => rfl), es]
    rw [sucFold_mk S.nds _ _ _ (fun s hs => ?_) (fun k' hk' => ?_)]
    · congr 1
      · refine mkPS_congr fun k' _ => ?_
        by_cases q : k' = k
        · subst q
          rw [if_pos rfl]
          have : cnt k' ((suF st k').map kp) = 0 := cnt_zero fun z => hnO k' z hO
          rw [this]; unfold npD; rw [if_pos (.head _)]; rfl
        · rw [if_neg q]
          unfold npD
          by_cases q1 : k' ∈ D
          · have : cnt k' ((suF st k).map kp) = 0 := cnt_zero fun z => hnO k' z (S.dO k' q1)
            rw [if_pos q1, if_pos (.tail _ q1), this]; rfl
          · have hkd : k' ∉ k :: D := fun z => by rcases List.mem_cons.mp z with r | r; exact q r; exact q1 r
            rw [if_neg q1, if_neg hkd]
            by_cases q2 : k' ∈ O
            · have : cnt k' ((suF st k).map kp) = 0 := cnt_zero fun z => hnO k' z q2
              rw [if_pos q2, if_pos q2, this]; rfl
            · rw [if_neg q2, if_neg q2, cnt_suF, filter_split k k' hD]; omega
      · rw [List.map_append]
        congr 2
        unfold newly
        refine lastsBy_congr fun k' hk' => ?_
        have : k' ≠ k := fun e => hnO k' hk' (e ▸ hO)
        rw [if_neg this]
    · obtain ⟨t, ht, _, rfl⟩ := hsk s hs
      exact (S.stn t ht).2.1
    · have h1 := hnO k' hk'
      have : k' ≠ k := fun e => h1 (e ▸ hO)
      rw [if_neg this, eF k' h1, cnt_suF, filter_split k k' hD]; omega
  refine ⟨⟨S.nds, S.stn, S.on, fun k' hk' => ?_, fun s hs h => .tail _ (S.closed s hs h), fun k' => ?_, ?_, fun q hq => ?_⟩, ?_, step⟩
  · rcases List.mem_cons.mp hk' with r | r
    · rw [r]; exact hO
    · exact S.dO k' r
  · rw [List.map_append, List.mem_append, S.rdy, newly, lastsBy_mem]
    have zero : ∀ k', k' ∉ O → ((∀ s ∈ st, kOf s.2 = k' → s.1 ∈ k :: D) ↔ (st.filter fun s => decide (kOf s.2 = k' ∧ s.1 ∉ k :: D)).length = 0) := fun k' _ => by
      rw [List.length_eq_zero_iff, List.filter_eq_nil_iff]
      refine forall_congr' fun s => forall_congr' fun hs => ?_
      by_cases a : kOf s.2 = k' <;> by_cases b : s.1 = k <;> simp [a, b]
    constructor
    · rintro (⟨h1, h2, h3⟩ | ⟨h1, h2⟩)
      · exact ⟨h1, h2, fun s hs e => .tail _ (h3 s hs e)⟩
      · have hno := hnO k' h1
        obtain ⟨s, hs, rfl⟩ := List.mem_map.mp h1
        obtain ⟨t, ht, h4, rfl⟩ := hsk s hs
        refine ⟨(S.stn t ht).2.1, hno, (zero _ hno).mpr ?_⟩
        rw [eF _ hno, cnt_suF, filter_split k _ hD, beq_iff_eq] at h2
        omega
    · rintro ⟨h1, h2, h3⟩
      by_cases q : ∀ s ∈ st, kOf s.2 = k' → s.1 ∈ D
      · exact .inl ⟨h1, h2, q⟩
      · right
        have hex : ∃ s ∈ st, kOf s.2 = k' ∧ s.1 = k := by
          apply Classical.byContradiction
          intro z
          apply q
          intro s hs e
          rcases List.mem_cons.mp (h3 s hs e) with r | r
          · exact absurd ⟨s, hs, e, r⟩ z
          · exact r
        obtain ⟨s, hs, e, r⟩ := hex
        refine ⟨List.mem_map.mpr ⟨kp s.2, List.mem_map.mpr ⟨s.2, List.mem_map.mpr ⟨s, List.mem_filter.mpr ⟨hs, decide_eq_true r⟩, rfl⟩, rfl⟩, e⟩, ?_⟩
        rw [eF _ h2, cnt_suF, filter_split k _ hD, beq_iff_eq]
        have := (zero _ h2).mp h3
        omega
  · rw [List.map_append, List.nodup_append]
    refine ⟨S.rnd, lastsBy_nodup, fun a ha b hb e => ?_⟩
    subst e
    have h1 := (S.rdy a).mp ha
    have h2 := (lastsBy_mem.mp hb).1
    obtain ⟨s, hs, rfl⟩ := List.mem_map.mp h2
    obtain ⟨t, ht, h4, rfl⟩ := hsk s hs
    have := h1.2.2 t ht rfl
    rw [h4] at this; exact hD this
  · rcases List.mem_append.mp hq with r | r
    · exact S.rk q r
    · obtain ⟨t, ht, _, rfl⟩ := hsk q (lastsBy_sub r)
      exact (S.stn t ht).2.2
  · rw [show (psD nodes st D O) = mkPS nodes (npD st D O) (suF st) from rfl, npOf_mk' S.nds hkn, hnpk]
end Mine
end
section
namespace Mine
variable {su : PKey → List AV}
/-- seen, and no longer on the stack -/
noncomputable def FinK (S : PKey → Bool) (st : List (AV × List AV)) (k : PKey) : Prop := S k = true ∧ k ∉ st.map fun e => kOf e.1
noncomputable def OkR (su : PKey → List AV) (ρ : PKey → Nat) (S : PKey → Bool) (st : List (AV × List AV)) : Prop := ∀ k, FinK S st k → ∀ s ∈ su k, FinK S st (kOf s) ∧ ρ (kOf s) < ρ k
/-- below a node of key c that is being looked at -/
noncomputable def StkB (su : PKey → List AV) (S : PKey → Bool) (full : List (AV × List AV)) : List (AV × List AV) → PKey → Prop
  | [], _ => True
  | (n, rest) :: r, c => (∀ s ∈ su (kOf n), s ∈ rest ∨ FinK S full (kOf s) ∨ kOf s = c) ∧ StkB su S full r (kOf n)
noncomputable def StkT (su : PKey → List AV) (S : PKey → Bool) (full : List (AV × List AV)) : List (AV × List AV) → Prop
  | [] => True
  | (n, rest) :: r => (∀ s ∈ su (kOf n), s ∈ rest ∨ FinK S full (kOf s)) ∧ StkB su S full r (kOf n)
structure StkOk (S : PKey → Bool) (st : List (AV × List AV)) : Prop where
  nodup : (st.map fun e => kOf e.1).Nodup
  keys : ∀ e ∈ st, e.1.key = some (kOf e.1)
  seen : ∀ e ∈ st, S (kOf e.1) = true
theorem onS_iff {k : PKey} {S : PKey → Bool} {st : List (AV × List AV)} (h : StkOk S st) : onS k st = true ↔ k ∈ st.map fun e => kOf e.1 := by
  unfold onS
  rw [List.any_eq_true, List.mem_map]
  constructor
  · rintro ⟨e, he, q⟩; exact ⟨e, he, kOf_key (of_decide_eq_true q)⟩
  · rintro ⟨e, he, q⟩; exact ⟨e, he, decide_eq_true (by rw [h.keys e he, q])⟩
theorem StkB.mono {S S' : PKey → Bool} {full full' : List (AV × List AV)} (h : ∀ k, FinK S full k → FinK S' full' k) : ∀ {st : List (AV × List AV)} {c : PKey}, StkB su S full st c → StkB su S' full' st c
  | [], _, _ => trivial
  | (n, rest) :: r, c, x => ⟨fun s hs => (x.1 s hs).imp id (Or.imp (h _) id), StkB.mono h x.2⟩
theorem StkB.top {S : PKey → Bool} {full : List (AV × List AV)} {c : PKey} (hc : FinK S full c) : ∀ {st : List (AV × List AV)}, StkB su S full st c → StkT su S full st
  | [], _ => trivial
  | (n, rest) :: r, x => ⟨fun s hs => (x.1 s hs).imp id fun z => z.elim id fun e => e ▸ hc, x.2⟩
theorem StkOk.tail {S : PKey → Bool} {e : AV × List AV} {st : List (AV × List AV)} (h : StkOk S (e :: st)) : StkOk S st :=
  ⟨(List.nodup_cons.mp h.nodup).2, fun d hd => h.keys d (.tail _ hd), fun d hd => h.seen d (.tail _ hd)⟩
noncomputable def listMax (l : List Nat) : Nat := l.foldr max 0
theorem le_listMax : ∀ {l : List Nat} {x : Nat}, x ∈ l → x ≤ listMax l
  | y :: l, x, h => by
    show x ≤ max y (listMax l)
    rcases List.mem_cons.mp h with e | e
    · subst e; exact Nat.le_max_left ..
    · exact Nat.le_trans (le_listMax e) (Nat.le_max_right ..)
/-- a node without successors left goes off the stack -/
theorem pop1 {S : PKey → Bool} {ρ : PKey → Nat} {n : AV} {r : List (AV × List AV)} (h : StkOk S ((n, []) :: r)) (hk : OkR su ρ S ((n, []) :: r)) (ht : StkT su S ((n, []) :: r) ((n, []) :: r)) :
    ∃ ρ', OkR su ρ' S r ∧ StkT su S r r := by
  have hn : kOf n ∉ r.map fun e => kOf e.1 := (List.nodup_cons.mp h.nodup).1
  have up : ∀ k, FinK S ((n, []) :: r) k → FinK S r k := fun k x => ⟨x.1, fun z => x.2 (.tail _ z)⟩
  have fn : FinK S r (kOf n) := ⟨h.seen _ (.head _), hn⟩
  have hsu : ∀ s ∈ su (kOf n), FinK S ((n, []) :: r) (kOf s) := fun s hs => (ht.1 s hs).resolve_left (by intro q; cases q)
  refine ⟨fun k => if k = kOf n then 1 + listMax ((su (kOf n)).map fun s => ρ (kOf s)) else ρ k, fun k hf s hs => ?_, StkB.top fn (StkB.mono up ht.2)⟩
  by_cases q : k = kOf n
  · subst q
    have f := hsu s hs
    have ne : kOf s ≠ kOf n := fun e => f.2 (by rw [e]; exact .head _)
    refine ⟨up _ f, ?_⟩
    simp only [ne, if_false, if_true]
    have := le_listMax (List.mem_map.mpr ⟨s, hs, rfl⟩ : ρ (kOf s) ∈ (su (kOf n)).map fun s => ρ (kOf s))
    omega
  · have f : FinK S ((n, []) :: r) k := ⟨hf.1, fun z => by rcases List.mem_cons.mp z with e | e; exact q e; exact hf.2 e⟩
    obtain ⟨f1, f2⟩ := hk k f s hs
    have ne : kOf s ≠ kOf n := fun e => f1.2 (by rw [e]; exact .head _)
    refine ⟨up _ f1, ?_⟩
    simp only [ne, q, if_false]; exact f2
theorem popAll {S : PKey → Bool} : ∀ {st : List (AV × List AV)} {ρ : PKey → Nat}, StkOk S st → OkR su ρ S st → StkT su S st st →
    match popS st with
    | none => ∃ ρ', OkR su ρ' S []
    | some (v', st') => ∃ ρ', OkR su ρ' S st' ∧ StkB su S st' st' (kOf v') ∧ StkOk S st' ∧ (st' ≠ [])
  | [], ρ, _, hk, _ => ⟨ρ, hk⟩
  | (n, []) :: r, ρ, h, hk, ht => by
    obtain ⟨ρ', a, b⟩ := pop1 h hk ht
    have := popAll (st := r) h.tail a b
    exact this
  | (n, s :: t) :: r, ρ, h, hk, ht => by
    have e : ∀ k, FinK S ((n, s :: t) :: r) k ↔ FinK S ((n, t) :: r) k := fun k => Iff.rfl
    refine ⟨ρ, fun k hf u hu => hk k hf u hu, ⟨fun u hu => ?_, StkB.mono (S' := S) (full' := (n, t) :: r) (fun k x => (e k).mp x) ht.2⟩, ⟨h.nodup, fun e he => ?_, fun e he => ?_⟩, by simp⟩
    · rcases ht.1 u hu with q | q
      · rcases List.mem_cons.mp q with z | z
        · subst z; exact .inr (.inr rfl)
        · exact .inl z
      · exact .inr (.inl q)
    · rcases List.mem_cons.mp he with z | z
      · subst z; exact h.keys (n, s :: t) (.head _)
      · exact h.keys e (.tail _ z)
    · rcases List.mem_cons.mp he with z | z
      · subst z; exact h.seen (n, s :: t) (.head _)
      · exact h.seen e (.tail _ z)
theorem seenAdd_mono {S : PKey → Bool} {k k' : PKey} (h : S k' = true) : seenAdd S k k' = true := by unfold seenAdd; rw [h]; rfl
theorem seenAdd_self {S : PKey → Bool} {k : PKey} : seenAdd S k k = true := by unfold seenAdd; simp
/-- a node laid onto the stack -/
theorem pushOk {S : PKey → Bool} {st : List (AV × List AV)} {ρ : PKey → Nat} {v : AV} {k : PKey} (hv : v.key = some k) (hS : S k = false) (h : StkOk S st) (hk : OkR su ρ S st) (hb : StkB su S st st (kOf v)) :
    StkOk (seenAdd S k) ((v, su k) :: st) ∧ OkR su ρ (seenAdd S k) ((v, su k) :: st) ∧ StkT su (seenAdd S k) ((v, su k) :: st) ((v, su k) :: st) := by
  have hkv := kOf_key hv
  have hno : k ∉ st.map fun e => kOf e.1 := fun z => by
    obtain ⟨e, he, q⟩ := List.mem_map.mp z
    have := h.seen e he
    have q' : kOf e.1 = k := q
    rw [q', hS] at this; cases this
  have fin : ∀ k', FinK (seenAdd S k) ((v, su k) :: st) k' ↔ FinK S st k' := fun k' => by
    unfold FinK
    rw [List.map_cons, List.mem_cons]
    show _ ∧ ¬ (k' = kOf v ∨ _) ↔ _
    rw [hkv]
    constructor
    · rintro ⟨a, b⟩
      have ne : ¬ k' = k := fun e => b (.inl e)
      refine ⟨?_, fun z => b (.inr z)⟩
      unfold seenAdd at a; simpa [ne] using a
    · rintro ⟨a, b⟩
      refine ⟨seenAdd_mono a, fun z => ?_⟩
      rcases z with e | e
      · subst e; rw [hS] at a; cases a
      · exact b e
  refine ⟨⟨?_, fun e he => ?_, fun e he => ?_⟩, fun k' hf s hs => ?_, fun s hs => .inl (by rw [hkv] at hs; exact hs), StkB.mono (fun k' x => (fin k').mpr x) hb⟩
  · rw [List.map_cons, List.nodup_cons]
    refine ⟨?_, h.nodup⟩
    show kOf v ∉ _
    rw [hkv]; exact hno
  · rcases List.mem_cons.mp he with z | z
    · subst z; show v.key = some (kOf v); rw [hv, hkv]
    · exact h.keys e z
  · rcases List.mem_cons.mp he with z | z
    · subst z; show seenAdd S k (kOf v) = true; rw [hkv]; exact seenAdd_self
    · exact seenAdd_mono (h.seen e z)
  · obtain ⟨a, b⟩ := hk k' ((fin k').mp hf) s hs
    exact ⟨(fin _).mpr a, b⟩
/-- no ring: there is a rank that falls along all steps -/
theorem Run.rank {v : AV} {st : List (AV × List AV)} {S : PKey → Bool} {r : List AV ⊕ (PKey → Bool)} (R : Run su v st S r) : ∀ {ρ : PKey → Nat} {S' : PKey → Bool}, r = .inr S' → StkOk S st → OkR su ρ S st → StkB su S st st (kOf v) →
    (∃ ρ', OkR su ρ' S' []) ∧ (∀ k, S k = true → S' k = true) ∧ S' (kOf v) = true := by
  induction R with
  | ring => intro ρ S' e; cases e
  | @oldEnd v st S k hv hS hon hp =>
    intro ρ S' e h hk hb
    cases e
    have hkv := kOf_key hv
    have fv : FinK S st (kOf v) := by rw [hkv]; exact ⟨hS, fun z => by rw [(onS_iff h).mpr z] at hon; cases hon⟩
    have := popAll h hk (hb.top fv)
    rw [hp] at this
    exact ⟨this, fun k hk => hk, fv.1⟩
  | @oldNext v st S k v' st' r hv hS hon hp _ ih =>
    intro ρ S' e h hk hb
    have hkv := kOf_key hv
    have fv : FinK S st (kOf v) := by rw [hkv]; exact ⟨hS, fun z => by rw [(onS_iff h).mpr z] at hon; cases hon⟩
    have := popAll h hk (hb.top fv)
    rw [hp] at this
    obtain ⟨ρ', a, b, d, _⟩ := this
    obtain ⟨x, y, z⟩ := ih e d a b
    exact ⟨x, y, y _ fv.1⟩
  | @newEnd v st S k hv hS hp =>
    intro ρ S' e h hk hb
    cases e
    obtain ⟨a, b, d⟩ := pushOk hv hS h hk hb
    have := popAll a b d
    rw [hp] at this
    exact ⟨this, fun k hk => seenAdd_mono hk, by rw [kOf_key hv]; exact seenAdd_self⟩
  | @newNext v st S k v' st' r hv hS hp _ ih =>
    intro ρ S' e h hk hb
    obtain ⟨a, b, d⟩ := pushOk hv hS h hk hb
    have := popAll a b d
    rw [hp] at this
    obtain ⟨ρ', a, b, d, _⟩ := this
    obtain ⟨x, y, z⟩ := ih e d a b
    exact ⟨x, fun k hk => y k (seenAdd_mono hk), by rw [kOf_key hv]; exact y _ seenAdd_self⟩
theorem RunAll.rank {l : List AV} {S : PKey → Bool} {o : Option (List AV)} (R : RunAll su l S o) : ∀ {ρ : PKey → Nat}, o = none → OkR su ρ S [] → ∃ ρ' S', OkR su ρ' S' [] ∧ (∀ k, S k = true → S' k = true) ∧ ∀ v ∈ l, S' (kOf v) = true := by
  induction R with
  | nil => intro ρ _ hk; exact ⟨ρ, _, hk, fun k hk => hk, fun v hv => (nomatch hv)⟩
  | @skip v r S k o hv hS _ ih =>
    intro ρ e hk
    obtain ⟨ρ', S', a, b, d⟩ := ih e hk
    refine ⟨ρ', S', a, b, fun u hu => ?_⟩
    rcases List.mem_cons.mp hu with z | z
    · subst z; rw [kOf_key hv]; exact b _ hS
    · exact d u z
  | ring => intro ρ e; cases e
  | @go v r S S' k o hv hS R1 _ ih =>
    intro ρ e hk
    obtain ⟨⟨ρ1, a⟩, b, d⟩ := R1.rank rfl ⟨List.nodup_nil, fun e he => (nomatch he), fun e he => (nomatch he)⟩ hk trivial
    obtain ⟨ρ', S'', a2, b2, d2⟩ := ih e a
    refine ⟨ρ', S'', a2, fun k hk => b2 k (b k hk), fun u hu => ?_⟩
    rcases List.mem_cons.mp hu with z | z
    · subst z; exact b2 _ d
    · exact d2 u z
theorem RunAll.acyclic {l : List AV} (R : RunAll su l (fun _ => false) none) : ∃ ρ : PKey → Nat, ∀ v ∈ l, ∀ s ∈ su (kOf v), ρ (kOf s) < ρ (kOf v) := by
  obtain ⟨ρ', S', a, _, d⟩ := R.rank (ρ := fun _ => 0) rfl (fun k hk => by cases hk.1)
  exact ⟨ρ', fun v hv s hs => (a (kOf v) ⟨d v hv, by simp⟩ s hs).2⟩
/-! a ring -/
/-- each node on the stack is a step behind the one below it; c: the node looked at -/
noncomputable def PathS (su : PKey → List AV) : List (AV × List AV) → AV → Prop
  | [], _ => True
  | (n, rest) :: r, c => (∀ s ∈ rest, s ∈ su (kOf n)) ∧ c ∈ su (kOf n) ∧ PathS su r n
/-- the same with no node looked at -/
noncomputable def PathT (su : PKey → List AV) : List (AV × List AV) → Prop
  | [] => True
  | (n, rest) :: r => (∀ s ∈ rest, s ∈ su (kOf n)) ∧ PathS su r n
theorem PathS.top {c : AV} : ∀ {st : List (AV × List AV)}, PathS su st c → PathT su st
  | [], _ => trivial
  | (n, rest) :: r, x => ⟨x.1, x.2.2⟩
theorem PathT.pop : ∀ {st : List (AV × List AV)} {v' : AV} {st' : List (AV × List AV)}, PathT su st → popS st = some (v', st') → PathS su st' v'
  | [], _, _, _, e => by cases e
  | (n, []) :: r, v', st', x, e => PathT.pop (PathS.top x.2) e
  | (n, s :: t) :: r, v', st', x, e => by
    cases e
    exact ⟨fun u hu => x.1 u (.tail _ hu), x.1 _ (.head _), x.2⟩
theorem ring_set : ∀ {st : List (AV × List AV)} {c : AV}, PathS su st c → kOf c ∈ st.map (fun e => kOf e.1) → ∃ C : List PKey, C ≠ [] ∧ ∀ k ∈ C, ∃ p ∈ C, ∃ s ∈ su p, kOf s = k := by
  have key : ∀ {st : List (AV × List AV)} {c : AV} {k₀ : PKey}, PathS su st c → k₀ ∈ st.map (fun e => kOf e.1) → ∃ C : List PKey, k₀ ∈ C ∧ (∃ p ∈ C, ∃ s ∈ su p, kOf s = kOf c) ∧ ∀ k ∈ C, k = k₀ ∨ ∃ p ∈ C, ∃ s ∈ su p, kOf s = k := by
    intro st
    induction st with
    | nil => intro c k₀ _ h; cases h
    | cons e r ih =>
      intro c k₀ hp hm
      obtain ⟨n, rest⟩ := e
      obtain ⟨_, h2, h3⟩ := hp
      by_cases q : k₀ = kOf n
      · exact ⟨[kOf n], by rw [q]; exact .head _, ⟨kOf n, .head _, c, h2, rfl⟩, fun k hk => .inl (by rw [q]; exact List.mem_singleton.mp hk)⟩
      · rcases List.mem_cons.mp hm with z | z
        · exact absurd z q
        obtain ⟨C, a, ⟨p, hp, s, hs, e⟩, d⟩ := ih h3 z
        refine ⟨kOf n :: C, .tail _ a, ⟨kOf n, .head _, c, h2, rfl⟩, fun k hk => ?_⟩
        rcases List.mem_cons.mp hk with z | z
        · right; rw [z]; exact ⟨p, .tail _ hp, s, hs, e⟩
        · rcases d k z with w | ⟨p', hp', s', hs', e'⟩
          · exact .inl w
          · exact .inr ⟨p', .tail _ hp', s', hs', e'⟩
  intro st c hp hm
  obtain ⟨C, a, b, d⟩ := key hp hm
  refine ⟨C, fun e => (by rw [e] at a; cases a), fun k hk => ?_⟩
  rcases d k hk with z | z
  · rw [z]; exact b
  · exact z
theorem Run.ringSet {v : AV} {st : List (AV × List AV)} {S : PKey → Bool} {r : List AV ⊕ (PKey → Bool)} (R : Run su v st S r) : ∀ {l : List AV}, r = .inl l → (∀ e ∈ st, e.1.key = some (kOf e.1)) → (∀ k, ∀ s ∈ su k, s.key = some (kOf s)) → PathS su st v →
    ∃ C : List PKey, C ≠ [] ∧ ∀ k ∈ C, ∃ p ∈ C, ∃ s ∈ su p, kOf s = k := by
  have popk : ∀ {st : List (AV × List AV)} {v' : AV} {st' : List (AV × List AV)}, (∀ e ∈ st, e.1.key = some (kOf e.1)) → popS st = some (v', st') → ∀ e ∈ st', e.1.key = some (kOf e.1) := by
    intro st
    induction st with
    | nil => intro v' st' _ e; cases e
    | cons e r ih =>
      intro v' st' h hp
      obtain ⟨n, rest⟩ := e
      cases rest with
      | nil => exact ih (fun e he => h e (.tail _ he)) hp
      | cons s t =>
        cases hp
        intro e he
        rcases List.mem_cons.mp he with z | z
        · subst z; have h0 := h _ (List.Mem.head _); exact h0
        · exact h e (.tail _ z)
  induction R with
  | @ring v st S k hv hS hon =>
    intro l _ hst hsu hp
    refine ring_set hp ?_
    unfold onS at hon
    rw [List.any_eq_true] at hon
    obtain ⟨e, he, q⟩ := hon
    rw [kOf_key hv]
    exact List.mem_map.mpr ⟨e, he, kOf_key (of_decide_eq_true q)⟩
  | oldEnd => intro l e; cases e
  | @oldNext v st S k v' st' r hv hS hon hp _ ih => intro l e hst hsu hpath; exact ih e (popk hst hp) hsu (hpath.top.pop hp)
  | newEnd => intro l e; cases e
  | @newNext v st S k v' st' r hv hS hp _ ih =>
    intro l e hst hsu hpath
    have hkv := kOf_key hv
    refine ih e (popk (fun e he => ?_) hp) hsu (PathT.pop (st := (v, su k) :: st) ⟨fun s hs => by rw [hkv]; exact hs, hpath⟩ hp)
    rcases List.mem_cons.mp he with z | z
    · subst z; show v.key = some (kOf v); rw [hv, hkv]
    · exact hst e z
theorem RunAll.ringSet {l : List AV} {S : PKey → Bool} {o : Option (List AV)} (R : RunAll su l S o) (hsu : ∀ k, ∀ s ∈ su k, s.key = some (kOf s)) : ∀ {ring : List AV}, o = some ring → ∃ C : List PKey, C ≠ [] ∧ ∀ k ∈ C, ∃ p ∈ C, ∃ s ∈ su p, kOf s = k := by
  induction R with
  | nil => intro _ e; cases e
  | skip _ _ _ ih => exact ih
  | ring _ _ R1 => intro _ _; exact R1.ringSet rfl (fun e he => (nomatch he)) hsu trivial
  | go _ _ _ _ ih => exact ih
end Mine
end
section
namespace Mine
section
variable {c : Cx} {E : Value → Loc → Led → Prop} {m : Loc} {σ : Led} {env : Env} {elt target iter : Expr} {ifs : List Expr} {scope : Scope} {cl : List (Str × Addr)} {pos : Pos}
theorem W_via {t : Sem Value} {av : AV} {Q : Value → Loc → Led → Prop} (h : ∀ v, er v = av → Q v m σ) (ht : W c t (fun v m' σ' => er v = av ∧ m' = m ∧ σ' = σ) E m σ) : W c t Q E m σ :=
  W_mono_ne ht (by rintro v m' σ' ⟨a, rfl, rfl⟩; exact h v a)
/-- y = e, y a cell of the frame's -/
theorem W_Assign_Cell {y : Str} {z : Addr} {pos' pos : Pos} {value : Expr} {Q : Flow → Loc → Led → Prop} (hz : env.cells.lookup y = some z) (h : W c (eval value env) (fun v m σ => (∃ v₀, σ z = some (.cell v₀)) ∧ Q .next m (σ.set z (.cell (some (er v))))) E m σ)
    (hs : swapsWith value (some (.Name y pos')) pos.line env = pure false := by rfl) (hk : env.scope.kind = .function := by rfl) (hy : env.kindOf y = some .cell := by rfl) : W c (exec (.Assign [.Name y pos'] value pos) env) Q E m σ :=
  W_Assign_Name (W_mono_ne h fun v m σ x => by
    obtain ⟨⟨v₀, h1⟩, h2⟩ := x
    exact W_storeCell hz h1 h2 hk hy) hs
end
end Mine
end
section
namespace Mine
theorem range_take : ∀ (xs : List AV) (k : Nat), (List.range (min k xs.length)).filterMap (fun j => xs[j]?) = xs.take k
  | [], k => by simp
  | a :: r, 0 => by simp
  | a :: r, k + 1 => by
    rw [List.length_cons, Nat.succ_min_succ, List.range_succ_eq_map, List.filterMap_cons, List.filterMap_map, List.take_succ_cons]
    simp only [List.getElem?_cons_zero]
    congr 1
    rw [← range_take r k]
    rfl
/-- a slice up to an index -/
theorem pickA_to {xs : List AV} {k : Nat} : pickA xs none (some (k : Int)) none = xs.take k := by
  unfold pickA sliceBounds sliceRange
  simp only [Option.getD_none]
  have e1 : (max 0 (min (if (k : Int) < 0 then (k : Int) + xs.length else k) xs.length) : Int) = (min k xs.length : Nat) := by
    rw [if_neg (by omega)]; omega
  simp only [show (1 : Int) > 0 from by decide, if_true] at e1 ⊢
  rw [e1]
  have e2 : ((if (0 : Int) < ((min k xs.length : Nat) : Int) then (((min k xs.length : Nat) : Int) - 0 + 1 - 1) / 1 else 0) : Int).toNat = min k xs.length := by
    split
    · rw [Int.ediv_one]; omega
    · omega
  rw [e2, ← range_take xs k, List.filterMap_map]
  congr 1
  funext j
  show xs[((0 : Int) + 1 * (j : Int)).toNat]? = xs[j]?
  congr 1; omega
theorem pickA_ints {ms : List Int} {lo hi st : Option Int} : ∃ ns : List Int, pickA (ms.map AV.int) lo hi st = ns.map AV.int := by
  unfold pickA
  rw [List.length_map]
  generalize sliceRange _ _ _ = l
  refine ⟨l.filterMap (ms[·]?), ?_⟩
  rw [List.map_filterMap]
  congr 1
  funext j
  rw [List.getElem?_map]
theorem noPy {a b : Int} (h : b.natAbs ≤ 100000) : Builtin.divisionGoesByPylong a b = false := PyProof.noPylong_small (by omega)
end Mine
end
section
namespace Mine
/-- all but the cells stays -/
noncomputable def Led.leN (σ τ : Led) : Prop := ∀ b o, σ b = some o → (∀ v, o ≠ .cell v) → τ b = some o
theorem Led.le.toN {σ τ : Led} (h : σ.le τ) : σ.leN τ := fun b o e _ => h b o e
theorem Led.leN.setC {σ τ : Led} {z : Addr} {v₀ v : Option AV} (h : σ.leN τ) (hz : τ z = some (.cell v₀)) : σ.leN (τ.set z (.cell v)) := fun b o e n => by
  by_cases q : b = z
  · subst q
    have := h b o e n
    rw [hz] at this; cases this; exact absurd rfl (n v₀)
  · rw [Led.set_ne q]; exact h b o e n
theorem Led.leN.list {σ τ : Led} {a : Addr} {xs : List AV} (h : σ.leN τ) (ha : σ a = some (.list xs)) : τ a = some (.list xs) := h a _ ha (by intro v q; cases q)
theorem Led.leN.tuple {σ τ : Led} {a : Addr} {xs : List AV} (h : σ.leN τ) (ha : σ a = some (.tuple xs)) : τ a = some (.tuple xs) := h a _ ha (by intro v q; cases q)
mutual
theorem RD.monoN {σ σ' : Led} (hs : σ.leN σ') : ∀ {d : PyData} {av : AV}, RD σ d av → RD σ' d av
  | .none, _, x => x
  | .bool _, _, x => x
  | .int _, _, x => x
  | .str _, _, x => x
  | .list ds, av, x => by
    unfold RD at x ⊢
    obtain ⟨a, xs, h1, h2, h3⟩ := x
    exact ⟨a, xs, h1, hs.list h2, RDs.monoN hs h3⟩
  | .tuple ds, av, x => by
    unfold RD at x ⊢
    obtain ⟨a, xs, h1, h2, h3⟩ := x
    exact ⟨a, xs, h1, hs.tuple h2, RDs.monoN hs h3⟩
  | .dict _, _, x => x
theorem RDs.monoN {σ σ' : Led} (hs : σ.leN σ') : ∀ {ds : List PyData} {xs : List AV}, RDs σ ds xs → RDs σ' ds xs
  | [], _, x => x
  | d :: ds, xs, x => by
    unfold RDs at x ⊢
    obtain ⟨x, r, e, h1, h2⟩ := x
    exact ⟨x, r, e, RD.monoN hs h1, RDs.monoN hs h2⟩
end
end Mine
end
section
namespace Mine
noncomputable def topCx (prog : Program) (w : World) (B : Heap) (env : Env) (L : Addr) : Cx := { prog := prog, w := w, A := callerA.deeper env, B := B, L := L, f := L, fs := [] }
noncomputable def Led.nil : Led := fun _ => none
/-- the law's own call, from the machine's side -/
theorem entry {K : Params → Frag} {prog : Program} {w : World} {s : Shared} {f : Addr} {name qual : Str} {params : Arguments} {body : List Stmt} {scope : Scope} {dV kV doc pm cdv ct oc : Value} {an od : Option Addr} {osl : Array (Option Value)} {vals : List Value} (binds : List (Str × Value))
    (X : (K w.params).In s.heap) (T : ∃ p loose mg mb, TopRead p loose mg mb s.heap) (hmods : ∃ o, s.heap.get? sysModules = some o)
    (ho : (K w.params).lookup f = some ⟨oc, od, .func (fnOf name qual params body scope dV kV doc pm an cdv ct), osl⟩) (hcd : codeIn (K w.params) cdv qual = true)
    (hb : bindArgs (fnOf name qual params body scope dV kV doc pm an cdv ct) ⟨vals, []⟩ = pure binds)
    (hkind : (binds.all fun y => scope.names.lookup y.1 == some .local || scope.names.lookup y.1 == some .cell) = true)
    (h : ∀ L, Good K 40 (topCx prog w s.heap (envK qual scope L f cdv) L) → (topCx prog w s.heap (envK qual scope L f cdv) L).A.handled = none → W (topCx prog w s.heap (envK qual scope L f cdv) L) (execs body (envK qual scope L f cdv)) (fun fl _ _ => fl = .ret (.bool true)) NoE (eraseM (bindL (envK qual scope L f cdv).kindOf binds fun _ => none))
      (cellFold (bindC (envK qual scope L f cdv).kindOf binds fun _ => none) (cellsFrom (L + 1) scope.names []) Led.nil))
    (hnd : ((cellsFrom 0 scope.names []).map (·.1)).Nodup := by decide) (hco : scope.isCoroutine = false := by rfl) (hgen : scope.isGenerator = false := by rfl) (hk : scope.kind = .function := by rfl) :
    codeAny (model prog w) callerA (.call (.ref f) ⟨vals, []⟩) (fun r s' => r = .ok (.ret (.bool true)) ∧ ∃ h' tk, s' = { s with heap := h', toks := tk } ∧ ∀ b o, s.heap.get? b = some o → h'.get? b = some o) s := by
  obtain ⟨p, loose, mg, mb, T⟩ := T
  refine codeAny_call_function (by decide) (X _ _ ho) rfl hco hgen rfl (codeRec_of X hcd) ?_
  rw [hb]
  refine wpAny_pure ?_
  show wpAny _ _ _ _ _ _
  refine wpAny_newFunctionEnv_cells hk (kindsX (scope := scope) hkind _) fun env he s₂ x => ?_
  subst he
  obtain ⟨h₂, tk₂, rfl⟩ := x.toInCall.same
  have keep₂ : ∀ b o, s.heap.get? b = some o → h₂.get? b = some o := x.toInCall.keep
  refine ⟨T.nolimit.keeps keep₂, codeAny_func ?_⟩
  have hloc : (newEnv scope s.heap.objs.size mainGlobals (cellsFrom (s.heap.objs.size + 1) scope.names []) (qual ++ ".<locals>.") (some f) cdv none builtinsNs) = envK qual scope s.heap.objs.size f cdv := rfl
  generalize hL : s.heap.objs.size = L at x hloc ⊢
  have base : At w s.heap [(L, eraseM (bindL (envK qual scope L f cdv).kindOf binds fun _ => none))] h₂ (Led.nil.un Led.nil) := by
    refine ⟨keep₂, fun p hp => ?_, fun p hp => ?_, by simp, fun a ao e => (nomatch e), fun a ao e => (nomatch e), fun a ao e => (nomatch e)⟩
    · rw [List.mem_singleton.mp hp]; exact ⟨_, x.toInCall.ns, fun _ => rfl⟩
    · rw [List.mem_singleton.mp hp]
      exact Heap.get?_none_of_le (by rw [hL]; exact Nat.le_refl _)
  have hd0 : Dis Led.nil Led.nil := fun _ => .inl rfl
  obtain ⟨hA₂, hd₂⟩ := cellFold_at (cm := bindC (envK qual scope L f cdv).kindOf binds fun _ => none) (n := L) base hd0 (fun e he => rfl) (fun e he => Heap.get?_none_of_le (by rw [hL]; exact he)) (fun p hp => by cases hp)
    (cellsFrom (L + 1) scope.names []) (fun y z e => x.cell y z (lookup_of_nodup (cells_nodup hnd _) e)) (fun y z e => by
      rcases mem_cellsFrom _ _ _ e with r | r
      · cases r
      · exact r) (Nat.le_refl _)
  have ok : Okay (topCx prog w s.heap (envK qual scope L f cdv) L) := ⟨envK qual scope L f cdv, [], Around.frames_deeper rfl, rfl, fun e he => by rw [List.mem_singleton.mp he]; exact ⟨by show scope.kind ≠ _; rw [hk]; decide, L, rfl, .inl rfl⟩⟩
  have G : Good K 40 (topCx prog w s.heap (envK qual scope L f cdv) L) := ⟨X, ⟨p, loose, mg, mb, T⟩, hmods, ok, by show callerA.depth + 1 + 40 < recursionLimit; decide, by show callerA.units + 3 + 10 * 40 + 200 < cLine; decide⟩
  have z := h L G rfl Led.nil { s with heap := h₂, toks := tk₂ } hd₂ hA₂
  refine wpAny_mono z (fun fl s₃ y => ?_) fun e s₃ y => (PE.no y).elim
  obtain ⟨h₃, tk₃, m₃, σ₃, rfl, hd₃, hA₃, rfl⟩ := y
  exact ⟨rfl, h₃, tk₃, rfl, hA₃.keep⟩
end Mine
end
section
namespace Mine
theorem fillL1A : (fun (_ : OpenLaw) (_ : Params → Frag) => True) PySem.Challenge.rw_nq0156_01 Mine.hd.heap_1 := by
  k_fill; trivial
theorem Led.le.put {σ τ : Led} {b : Addr} {o : AO} (h : σ.le τ) (hb : τ b = some o) : (σ.set b o).le τ := fun d o' e => by
  by_cases q : d = b
  · subst q; rw [Led.set_self] at e; rw [hb]; exact e
  · rw [Led.set_ne q] at e; exact h d o' e
namespace L1
noncomputable def nd (N : List (List Nat)) (i : Nat) : List Nat := N[i]?.getD []
theorem nd_get {N : List (List Nat)} {i : Nat} (h : i < N.length) : N[i] = nd N i := by unfold nd; rw [List.getElem?_eq_getElem h]; rfl
noncomputable def ownL : List Int := [0, 111, 990, 101, 202, 231, 993, 954, 7998]
noncomputable def bnd (x : Int) (name : Nat) : Int := if (x.fdiv 1000).fmod 10 == 7 then 9 else name
noncomputable def fig (x s : Int) : Int := (x.fdiv s).fmod 10
noncomputable def memb1 (x : Int) (name : Nat) : List Nat := (([1, 10, 100] : List Int).filter fun s => decide (fig x s < bnd x name)).map fun s => (fig x s).toNat
noncomputable def membF (xs : List Int) : List (List Nat) := (List.range 9).map fun name => memb1 (xs[name]?.getD 0) name
theorem fig_nn (x s : Int) : 0 ≤ fig x s := fmod_lo _ (by decide)
theorem memb_AI {x : Int} {name : Nat} : (AO.list ((([1, 10, 100] : List Int).filter fun s => decide (fig x s < bnd x name)).map fun s => AV.int (fig x s))) = AI (memb1 x name) := by
  unfold memb1 AI
  rw [List.map_map]
  congr 1
  refine List.map_congr_left fun s _ => ?_
  show AV.int _ = AV.int (((fig x s).toNat : Nat) : Int)
  rw [Int.toNat_of_nonneg (fig_nn x s)]
theorem memb1_len (x : Int) (name : Nat) : (memb1 x name).length ≤ 3 := by
  unfold memb1
  rw [List.length_map]
  exact List.length_filter_le _ _
theorem memb1_lt {x : Int} {name : Nat} (hn : name < 9) : ∀ y ∈ memb1 x name, y < 9 := fun y hy => by
  obtain ⟨s, hs, rfl⟩ := List.mem_map.mp hy
  have h1 := of_decide_eq_true (List.mem_filter.mp hs).2
  have h2 : bnd x name ≤ 9 := by unfold bnd; split <;> omega
  have h0 := fig_nn x s
  omega
/-- between the names -/
inductive MemI (xs : List Int) (σ : Led) (L l po pc : Addr) (i : Nat) (m' : Loc) (τ : Led) : Prop
  | mk (h1 : m' "script" = some (.ref l)) (h2 : m' "own" = some (.ref po)) (h3 : m' "members" = some (.ref pc)) (τ₀ : Led) (v1 v2 : Option AV) (ys : List AV) (le : σ.le τ₀) (n1 : τ₀ (L + 1) = none) (n2 : τ₀ (L + 2) = none)
    (n3 : τ₀ pc = none) (ho : τ₀ po = some (.list (ownL.map AV.int))) (hr : RDs τ₀ (((membF xs).take i).map dI) ys) (e : τ = ((τ₀.set (L + 1) (.cell v1)).set (L + 2) (.cell v2)).set pc (.list ys)) : MemI xs σ L l po pc i m' τ
set_option maxRecDepth 100000 in
set_option maxHeartbeats 2000000 in
theorem lawMembers {c : Cx} {E : Value → Loc → Led → Prop} {m : Loc} {σ : Led} {Q : Value → Loc → Led → Prop} {l : Addr} {vs : List Value} {ms : List Int} (G : Good Mine.hd.heap_1 2 c) (hh : c.A.handled = none)
    (hl : c.B.IsList l vs.toArray) (hin : IntsAre vs ms) (hmz : ms.length ≤ 63) (h : ∀ a σ' xs, xs.length = 9 → σ.le σ' → RD σ' (dII (membF xs)) (.ref a) → Q (.ref a) m σ') : W c (call (.ref 168) [.ref l]) Q E m σ := by
  obtain ⟨g, hg⟩ : ∃ g : Nat → List Int, ∀ k : Nat, pickA (ms.map AV.int) (some ((8 : Int) - k)) none (some 9) = (g k).map AV.int := ⟨fun k => (pickA_ints (ms := ms) (lo := some ((8 : Int) - k)) (hi := none) (st := some 9)).choose, fun k => (pickA_ints (ms := ms) (lo := some ((8 : Int) - k)) (hi := none) (st := some 9)).choose_spec⟩
  obtain ⟨xs, hxs, hx9⟩ : ∃ xs : List Int, (∀ i : Nat, i < 9 → xs[i]? = some ((ownL[i]?.getD 0) + (g i).sum)) ∧ xs.length = 9 := ⟨(List.range 9).map fun k => (ownL[k]?.getD 0) + (g k).sum, fun i hi => by rw [List.getElem?_map, List.getElem?_range hi]; rfl, by simp⟩
  have hsz : 1000000 ≤ sizeLine := by decide
  refine W_fnC [("script", .ref l)] G (by k_is) (by k_is) (by rfl) (by rfl) fun L hL G1 => ?_
  show W _ _ _ _ _ ((σ.set (L + 1) (.cell none)).set (L + 2) (.cell none))
  have hL1 : σ (L + 1) = none := hL _ (Nat.le_add_right _ _)
  have hL2 : σ (L + 2) = none := hL _ (Nat.le_add_right _ _)
  have h12 : L + 1 ≠ L + 2 := Ane (by decide)
  refine W_execs_cons (W_Assign_Name (W_List (W_items_cons (W_constInt fun _ => W_items_cons (W_constInt fun _ => W_items_cons (W_constInt fun _ => W_items_cons (W_constInt fun _ => W_items_cons (W_constInt fun _ => W_items_cons (W_constInt fun _ => W_items_cons (W_constInt fun _ => W_items_cons (W_constInt fun _ => W_items_cons (W_constInt fun _ => W_items_nil (W_newList fun po hpo => W_storeLocal rfl ?_)))))))))))))
  refine W_execs_cons (W_Assign_Name (W_List (W_items_nil (W_newList fun pc hpc => W_storeLocal rfl ?_))))
  show W _ _ _ _ _ ((((σ.set (L + 1) (.cell none)).set (L + 2) (.cell none)).set po (.list (ownL.map AV.int))).set pc (.list []))
  have leC : σ.le ((σ.set (L + 1) (.cell none)).set (L + 2) (.cell none)) := (Led.le_set hL1).set hL2
  have hp1 : po ≠ L + 1 := fun e => by rw [e, Led.set_ne h12, Led.set_self] at hpo; cases hpo
  have hp2 : po ≠ L + 2 := fun e => by rw [e, Led.set_self] at hpo; cases hpo
  have hpo0 : σ po = none := leC.none hpo
  have hpc1 := (Led.le_set (o := .list (ownL.map AV.int)) hpo).none hpc
  have hpp : pc ≠ po := fun e => by rw [e] at hpc; erw [Led.set_self] at hpc; cases hpc
  have hc1 : pc ≠ L + 1 := fun e => by rw [e, Led.set_ne h12, Led.set_self] at hpc1; cases hpc1
  have hc2 : pc ≠ L + 2 := fun e => by rw [e, Led.set_self] at hpc1; cases hpc1
  have hpc0 : σ pc = none := leC.none hpc1
  refine W_execs_cons (W_For_range G1.ok hh rfl (W_bcall G1 (by k_is) boot_range (W_arg1 (W_constInt fun t => W_range1 fun r hr => ?_))))
  refine ⟨r, 0, 9, 1, 9, _, MemI xs σ L l po pc, rfl, Led.set_self, by decide, by decide, Led.le_set hr,
    ⟨by rfl, by rfl, by rfl, σ.set po (.list (ownL.map AV.int)), none, none, [], Led.le_set hpo0, (Led.set_ne (Ne.symm hp1)).trans hL1, (Led.set_ne (Ne.symm hp2)).trans hL2, (Led.set_ne hpp).trans hpc0, Led.set_self, by exact rfl, ?_⟩, fun i t m' τ hi hI => ?_, fun m' τ hI => ?_⟩
  · rw [Led.set_comm (Ne.symm hp2), Led.set_comm (Ne.symm hp1)]
  · obtain ⟨hm1, hm2, hm3, τ₀, v1, v2, ys, hle, n1, n2, n3, ho, hr0, rfl⟩ := hI
    rw [show (0 : Int) + 1 * (i : Nat) = (i : Nat) by omega]
    have le1 : ∀ v1 v2, τ₀.le (((τ₀.set (L + 1) (.cell v1)).set (L + 2) (.cell v2)).set pc (.list ys)) := fun v1 v2 => (((Led.le.refl τ₀).set n1).set n2).set n3
    have hyl : ys.length ≤ 9 := by rw [hr0.length, List.length_map, List.length_take]; unfold membF; simp; omega
    have cell1 : ∀ v1 v2, (((τ₀.set (L + 1) (.cell v1)).set (L + 2) (.cell v2)).set pc (.list ys)) (L + 1) = some (.cell v1) := fun v1 v2 => (Led.set_ne (Ne.symm hc1)).trans ((Led.set_ne h12).trans Led.set_self)
    have cell2 : ∀ v1 v2, (((τ₀.set (L + 1) (.cell v1)).set (L + 2) (.cell v2)).set pc (.list ys)) (L + 2) = some (.cell v2) := fun v1 v2 => (Led.set_ne (Ne.symm hc2)).trans Led.set_self
    refine W_assignName (W_storeLocal rfl ?_)
    -- x = own[name] + sum(..)
    refine W_execs_cons (W_Assign_Cell (by rfl) (W_keep (W_BinOp (W_Subscript (W_lr rfl (by exact hm2) (W_li rfl (by rfl) fun t => W_item (x := .int (ownL[i]?.getD 0)) ((le1 _ _) _ _ ho) (by omega) ?_ (by show 9 ≤ sizeLine; omega) fun v hv => ?_))))))
    · rw [List.getElem?_map]
      have : i < ownL.length := hi
      simp [List.getElem?_eq_getElem this]
    obtain ⟨t, rfl⟩ := er_int hv
    refine W_bcall G1 (by k_is) boot_sum (W_arg1 (W_slice3 (W_lr rfl (by exact hm1) ?_)))
    show W _ (eval _ _) _ _ _ _
    refine W_BinOp (W_constInt fun t => W_li rfl (by rfl) fun t => W_sub fun t => W_evalNone (W_constInt fun t => ⟨l, ms.map AV.int, some ((8 : Int) - i), none, 9, t, rfl, .inr ⟨vs, hl, er_intsAre hin⟩, .int _ _, .none, rfl, by decide, by rw [List.length_map]; omega, fun a ha => ?_⟩))
    rw [hg i]
    refine W_sumInts (by exact hh) Led.set_self fun t => W_add fun t => ⟨_, Led.le_set ha, ⟨_, cell1 v1 v2⟩, ?_⟩
    have hxi := hxs i hi
    generalize (ownL[i]?.getD 0) + (g i).sum = X at hxi ⊢
    rw [show (((τ₀.set (L + 1) (.cell v1)).set (L + 2) (.cell v2)).set pc (.list ys)).set (L + 1) (.cell (some (er (.int X t)))) = ((τ₀.set (L + 1) (.cell (some (.int X)))).set (L + 2) (.cell v2)).set pc (.list ys) by rw [Led.set_comm hc1, Led.set_comm (Ne.symm h12), Led.set_set]; rfl]
    -- bound = ..
    refine W_execs_cons (W_Assign_Cell (by rfl) (W_IfExp (W_isTrue_Compare (W_Compare (W_BinOp (W_BinOp (W_ci (by rfl) (cell1 _ _) fun t => W_constInt fun t => W_floordiv (by decide) (noPy (by decide)) fun t => W_constInt fun t => W_mod (by decide) fun t => W_constInt fun t => W_eqInt (W_truthyBool (W_via (av := .int (bnd X i)) (fun u hu => ⟨⟨v2, cell2 _ _⟩, ?_⟩) ?_)))))))))
    rotate_left
    · unfold bnd
      cases hb : (X.fdiv 1000).fmod 10 == 7 with
      | true => exact W_constInt fun t => ⟨rfl, rfl, rfl⟩
      | false => exact W_li rfl (by rfl) fun t => ⟨rfl, rfl, rfl⟩
    rw [hu]
    rw [show ((((τ₀.set (L + 1) (.cell (some (.int X)))).set (L + 2) (.cell v2)).set pc (.list ys)).set (L + 2) (.cell (some (.int (bnd X i))))) = ((τ₀.set (L + 1) (.cell (some (.int X)))).set (L + 2) (.cell (some (.int (bnd X i))))).set pc (.list ys) by rw [Led.set_comm hc2, Led.set_set]]
    -- members.append(..)
    refine W_execs_cons (W_Expr (W_CallMethod (W_lr rfl (by exact hm3) ?_)))
    refine W_getMethod_list PySem.F.slot_list_append PySem.F.type_list_append Led.set_self ?_
    refine W_callWithB (by intro a h; cases h) (W_arg1 (W_ListComp (by rfl) (W_List (W_items_cons (W_constInt fun t => W_items_cons (W_constInt fun t => W_items_cons (W_constInt fun t => W_items_nil (W_newList fun q hq => ?_)))))))) 
    have c1 := Led.set_old (o := .list (([1, 10, 100] : List Int).map AV.int)) (cell1 (some (.int X)) (some (.int (bnd X i)))) hq
    have c2 := Led.set_old (o := .list (([1, 10, 100] : List Int).map AV.int)) (cell2 (some (.int X)) (some (.int (bnd X i)))) hq
    refine W_itL [1, 10, 100] AV.int (fun s => decide (fig X s < bnd X i)) (fun s => AV.int (fig X s)) (by exact hh) Led.set_self (Nat.le_of_ble_eq_true rfl) (fun C s u m'' hs hu => ?_) fun a ha => ?_
    · obtain ⟨t, rfl⟩ := er_int hu
      obtain ⟨s0, s1⟩ : s ≠ 0 ∧ s.natAbs ≤ 100000 := by
        simp only [List.mem_cons, List.not_mem_nil, or_false] at hs
        omega
      refine W_assignName (W_storeLocal rfl (W_tests_one (W_isTrue_Compare (W_Compare (W_BinOp (W_BinOp (W_ci (by rfl) c1 fun t => W_li rfl (by rfl) fun t => W_floordiv s0 (noPy s1) fun t => W_constInt fun t => W_mod (by decide) fun t => W_ci (by rfl) c2 fun t => W_lt (W_truthyBool ⟨rfl, ?_⟩))))))))
      by_cases q : fig X s < bnd X i
      · rw [if_pos (show decide ((X.fdiv s).fmod 10 < bnd X i) = true from decide_eq_true q)]
        exact W_BinOp (W_BinOp (W_ci (by rfl) c1 fun t => W_li rfl (by rfl) fun t => W_floordiv s0 (noPy s1) fun t => W_constInt fun t => W_mod (by decide) fun t => ⟨rfl, Led.le.refl _⟩))
      · rw [if_neg (show ¬ decide ((X.fdiv s).fmod 10 < bnd X i) = true from fun e => q (of_decide_eq_true e))]
        exact Led.le.refl _
    rw [memb_AI]
    refine W_shrink (σ' := (((τ₀.set (L + 1) (.cell (some (.int X)))).set (L + 2) (.cell (some (.int (bnd X i))))).set pc (.list ys)).set a (AI (memb1 X i))) ((Led.le_set hq).set2) ?_
    have ha1 := (Led.le_set hq).none ha
    have hpa : pc ≠ a := fun e => by rw [← e, Led.set_self] at ha1; cases ha1
    have hLa : a ≠ L + 1 := fun e => by rw [e, cell1] at ha1; cases ha1
    have hLb : a ≠ L + 2 := fun e => by rw [e, cell2] at ha1; cases ha1
    have ha0 : τ₀ a = none := (le1 _ _).none ha1
    refine W_append ((Led.set_ne hpa).trans Led.set_self) ?_ (by omega)
    refine W_execs_nil ⟨by exact hm1, by exact hm2, by exact hm3, τ₀.set a (AI (memb1 X i)), some (.int X), some (.int (bnd X i)), ys ++ [.ref a], hle.set (hle.none ha0), (Led.set_ne (Ne.symm hLa)).trans n1, (Led.set_ne (Ne.symm hLb)).trans n2, (Led.set_ne hpa).trans n3, Led.set_old ho ha0, ?_, ?_⟩
    · have e2 : (membF xs)[i]? = some (memb1 X i) := by unfold membF; rw [List.getElem?_map, List.getElem?_range hi, Option.map_some, hxi]; rfl
      rw [List.take_add_one, e2, List.map_append]
      exact RDs.push (RD_dI' Led.set_self) (hr0.mono (Led.le_set ha0))
    · show ((((τ₀.set (L + 1) _).set (L + 2) _).set pc _).set a _).set pc _ = _
      rw [Led.set_comm hpa, Led.set_set, Led.set_comm (Ne.symm hLb), Led.set_comm (Ne.symm hLa)]
      rfl
  · obtain ⟨hm1, hm2, hm3, τ₀, v1, v2, ys, hle, n1, n2, n3, ho, hr0, rfl⟩ := hI
    refine W_execs_cons (W_Return (W_lr rfl hm3 ?_))
    have le1 : τ₀.le (((τ₀.set (L + 1) (.cell v1)).set (L + 2) (.cell v2)).set pc (.list ys)) := (((Led.le.refl τ₀).set n1).set n2).set n3
    refine h pc _ xs hx9 (hle.trans le1) ⟨pc, ys, rfl, Led.set_self, ?_⟩
    rw [List.take_of_length_le (by unfold membF; simp)] at hr0
    exact hr0.mono le1
end L1
end Mine
end
section
set_option maxRecDepth 100000
namespace Mine
theorem lk_list_hash : typeLookup (.type "list") "__hash__" = pure (some .none) := by rw [typeLookup_type, builtinLookup_eq_fast]; kernel_rfl
section
variable {c : Cx} {E : Value → Loc → Led → Prop} {m : Loc} {σ : Led} {env : Env} {K : Params → Frag} {n : Nat}
theorem W_dictSetT {d a : Addr} {xs : List AV} {v : Value} {Q : Unit → Loc → Led → Prop} (hh : c.A.handled = none) (hu : c.A.units < cLine) (hl : σ a = some (.list xs)) (h : E (.type "TypeError") m σ) : W c (dictSet d (.ref a) v) Q E m σ := fun φ s hd hA => by
  obtain ⟨vs, k, ho, hv⟩ := list_led hA hl
  have hT : s.TypeIs (.ref a) "list" := ⟨_, ho, rfl⟩
  unfold dictSet
  refine wpAny_holding (wpAny_bind ?_)
  show wpAny _ _ (pyHashByItsType (.ref a)) _ _ s
  unfold pyHashByItsType
  refine wpAny_bind (wpAny_cRoomFor hu ?_)
  refine wpAny_bind (wpAny_specialOf hT lk_list_hash ?_)
  show wpAny _ _ (rule "hash.unhashable" >>= _) _ _ s
  refine wpAny_bind (wpAny_rule ?_)
  refine wpAny_bind (wpAny_typeNameOf' hT (by decide) ?_)
  exact wpAny_bind (wpAny_raiseTypeError hh (fun h' tk e hn => PE.new hd hA hn h) (by decide +kernel))
/-- dict.fromkeys of a list whose first item is a list -/
theorem WC_fkT {p x : Addr} {ys zs : List AV} {Q : Value → Loc → Led → Prop} (hh : c.A.handled = none) (hu : c.in1.A.units < cLine) (hp : σ p = some (.list (.ref x :: zs))) (hx : σ x = some (.list ys)) (h : E (.type "TypeError") m σ) : WC c (.builtin "dict.fromkeys" ⟨[.type "dict", .ref p], []⟩) Q E m σ := by
  refine WC_builtin entry_fk plain_fk ?_
  show W c.in1 (isType (.type "dict") >>= _) _ E m σ
  rw [type_dict]
  refine W_bind (W_pure ?_)
  show W c.in1 (isSubtype (.type "dict") (.type "dict") >>= _) _ E m σ
  rw [PySem.F.kt_sub_dict]
  refine W_bind (W_pure ?_)
  show W c.in1 (rule "dict.fromkeys.default-none" >>= _) _ E m σ
  refine W_bind (W_rule ?_)
  refine W_bind (W_pure (a := (Value.ref p, Value.none)) ?_)
  show W c.in1 (call (.type "dict") [] >>= _) _ E m σ
  refine W_bind (W_newDictCall fun d hd => ?_)
  have hpd : p ≠ d := ne_of_led hp hd
  have hp' : (σ.set d (.dict [] 0)) p = some (.list (.ref x :: zs)) := (Led.set_ne hpd).trans hp
  refine W_holding ?_
  refine W_bind (W_typeList hp' ?_)
  refine W_bind (W_typeDict Led.set_self ?_)
  rw [if_neg (by decide)]
  refine W_bind (W_typeDict Led.set_self ?_)
  rw [if_neg (by decide)]
  refine W_bind (W_pyIter_list hp' fun I hI => ?_)
  refine W_pure ⟨plainId_quiet plain_fkl _, ?_⟩
  have hdI : d ≠ I := fun e => by rw [← e, Led.set_self] at hI; cases hI
  have hI' : σ I = none := by rw [Led.set_ne (Ne.symm hdI)] at hI; exact hI
  refine WC_builtin entry_fkl plain_fkl ?_
  show W c.in1 (pyNext (.ref I) >>= _) _ E m _
  refine W_bind ((Iter.list (c := c.in1) hh I p _).item (x := .ref x) hp' hI rfl fun v hv => ?_)
  rw [er_ref hv]
  dsimp only
  have hd1 : ((σ.set d (.dict [] 0)).set I (isLIter p (0 + 1))) d = some (.dict [] 0) := (Led.set_ne hdI).trans Led.set_self
  refine W_bind (W_typeDict hd1 ?_)
  rw [if_pos (by decide)]
  refine W_bind (W_pure (a := d) ?_)
  refine W_bind ?_
  refine W_holding (W_shrink (σ' := σ) ((Led.le_set hd).trans (Led.le_set hI)) (W_dictSetT (by exact hh) hu hx h))
/-- f(e, k=e'), f a def of the text's -/
theorem W_gcallKw {x kw : Str} {p pos kpos : Pos} {f : Addr} {e ke : Expr} {Q : Value → Loc → Led → Prop} (G : Good K n c) (hg : nsIn (K c.w.params) mainGlobals x = some (some (.ref f))) (hk : keepIn (K c.w.params) (.ref f) = true)
    (h : W c (eval e env) (fun v m σ => W c (eval ke env) (fun kv m σ => W c (call (.ref f) [v] [(kw, kv)]) Q E m σ) E m σ) E m σ)
    (hx : env.kindOf x = some .globalImplicit := by rfl) (hkf : env.scope.kind = .function := by rfl) (hgl : env.globals = mainGlobals := by rfl) (hd : (x == ("__debug__" : Str)) = false := by decide)
    (hst : starEach [e] env = (false, eval e env) :: starEach [] env := by rfl)
    (hev : eval (.Call (.Name x p) [e] [⟨some kw, ke, kpos⟩] pos) env = (do callWith pos (← eval (.Name x p) env) [] (backTo pos (starEach [e] env)) (backToKw pos (keywordEach [⟨some kw, ke, kpos⟩] env))) := by rfl) : W c (eval (.Call (.Name x p) [e] [⟨some kw, ke, kpos⟩] pos) env) Q E m σ := by
  rw [hev]
  refine W_bind (W_name (W_loadGlobal (W_global G hg ?_ hgl) hkf hx) hd)
  intro φ s hd hA
  refine callWith_KW (h₀ := c.B) (K := K c.w.params) G.X hk (by rfl) (wpAny_mono (W_arg1 (Q := fun vs m σ => ∃ v, vs = [v] ∧ W c (eval ke env) (fun kv m σ => W c (call (.ref f) [v] [(kw, kv)]) Q E m σ) E m σ) (W_mono_ne h fun v m σ q => ⟨v, rfl, q⟩) hst φ s hd hA) (fun vs s₁ y => ?_) fun _ _ y => y) (by rw [hst]; rfl) hst
  obtain ⟨h₁, tk₁, m₁, σ₁, rfl, hd₁, hA₁, v, rfl, hw⟩ := y
  refine kwAll_cons (wpAny_mono (hw φ _ hd₁ hA₁) (fun kv s₂ y => kwAll_nil ?_) fun _ _ y => y.re)
  obtain ⟨h₂, tk₂, m₂, σ₂, rfl, hd₂, hA₂, hw₂⟩ := y
  refine ⟨G.X.keeps hA₂.keep, wpAny_mono (hw₂ φ _ hd₂ hA₂) (fun r s₃ y => ?_) fun _ _ y => PE.re y⟩
  exact PQ.re y
end
end Mine
end
section
namespace Mine
theorem fillI : (fun (_ : OpenLaw) (_ : Params → Frag) => True) PySem.Challenge.rw_nq0156_01 Mine.hd.heap_1 := by
  k_fill; trivial
/-- items that are lists -/
noncomputable def Lists (σ : Led) (l : List (PyData × AV)) : Prop := ∀ q ∈ l, ∃ x xs, q.2 = .ref x ∧ σ x = some (.list xs)
theorem expo_le {σ : Led} {a T : Addr} {cls : Value} (ha : σ a = none) (hT : σ T = none) : σ.le (expo σ a T cls) := (Led.le_set ha).set hT
set_option maxRecDepth 100000 in
set_option maxHeartbeats 1000000 in
/-- _deduplicate(p, unhashable_fallback=True), p of lists -/
theorem dedT {c : Cx} {E : Value → Loc → Led → Prop} {m : Loc} {σ : Led} {Q : Value → Loc → Led → Prop} {p : Addr} {l : List (PyData × AV)} (G : Good Mine.hd.heap_1 4 c) (hh : c.A.handled = none)
    (hp : σ p = some (.list (l.map (·.2)))) (hl : Rds σ l) (hz : l.length ≤ 100000) (hls : Lists σ l)
    (h0 : l = [] → ∀ a ep, σ a = none → Q (.ref a) m (σ.set a (.dict [] ep))) (h1 : l ≠ [] → ∀ a τ, σ.le τ → τ a = none → Q (.ref a) m (τ.set a (.list ((ded l).map (·.2))))) :
    W c (call (.ref 29) [.ref p] [("unhashable_fallback", .bool true)]) Q E m σ := by
  refine W_fnP [("params", .ref p), ("unhashable_fallback", .bool true)] G (by k_is) (by k_is) (by exact fun _ => rfl) (by rfl) fun L hL G1 => ?_
  refine W_execs_cons (W_TryV G1.ok rfl (W_execs_cons (W_Return (W_CallMethod (W_name (W_loadGlobal (W_builtinName G1 (by k_is) PyProof.Rows.Boot.«dict» (by decide) ?_)))))))
  refine W_getFromkeys G1 (by k_is) fun x hx => ?_
  refine W_callWith rfl (fun σ => σ x = some (.exact fkObj)) (fun σ φ m h hP hA => keep_fk σ φ m h hP hA) (W_args (W_arg1 (W_lr rfl (by rfl) ⟨Led.set_self, ?_⟩)))
  cases l with
  | nil =>
    refine W_keep (W_callFk Led.set_self (WC_fk (l := []) hh (Led.set_old hp hx) (fun q hq => (nomatch hq)) (by decide) fun a ep ha => ⟨σ.set a (.dict [] ep), (Led.le_set hx).set2, ?_⟩))
    exact h0 rfl a ep ((Led.le_set hx).none ha)
  | cons q l =>
    obtain ⟨y, ys, hq, hy⟩ := hls q (.head _)
    have hp' : σ p = some (.list (.ref y :: l.map (·.2))) := by rw [← hq]; exact hp
    refine W_callFk Led.set_self (WC_fkT (x := y) hh (by exact G1.unit (k := 1) (by decide)) (Led.set_old hp' hx) (Led.set_old hy hx) ?_)
    intro a T ha hT hne
    have le1 := (Led.le_set (o := .exact fkObj) hx).trans (expo_le (cls := .type "TypeError") ha hT)
    refine ⟨W_name (W_loadGlobal (W_builtinName (G1.mark _) (by k_is) PyProof.Rows.Boot.«TypeError» (by decide) ⟨?_, rfl, rfl⟩)), ?_⟩
    · exact meets_builtin PySem.F.isExc_TypeError PySem.F.notTuple_TypeError (by rw [isSubtype_type]; kernel_rfl)
    refine W_execs_cons (W_If (W_isTrue_Not (W_isTrue (W_lb rfl (by rfl) (W_truthyBool (W_execs_nil ?_))))))
    refine W_execs_cons (W_Return (W_gcall (G1.mark _) (by k_is) (by k_is) (W_arg1 (W_lr rfl (by rfl) ?_))))
    refine dedUQ ((G1.mark _).le (by decide)) (.inr ⟨a, .type "TypeError", T, rfl, (Led.set_ne (Ne.symm hne)).trans Led.set_self⟩) (le1 _ _ hp) (hl.mono le1) hz fun b hb => ?_
    exact h1 (by simp) b _ le1 hb
set_option maxRecDepth 100000 in
set_option maxHeartbeats 1000000 in
/-- _deduplicate(p), p of lists, not empty -/
theorem dedR {c : Cx} {E : Value → Loc → Led → Prop} {m : Loc} {σ : Led} {Q : Value → Loc → Led → Prop} {p y : Addr} {ys zs : List AV} (G : Good Mine.hd.heap_1 4 c) (hh : c.A.handled = none)
    (hp : σ p = some (.list (.ref y :: zs))) (hy : σ y = some (.list ys)) (h : ∀ τ, σ.le τ → E (.type "TypeError") m τ) : W c (call (.ref 29) [.ref p]) Q E m σ := by
  refine W_fnP [("params", .ref p), ("unhashable_fallback", .bool false)] G (by k_is) (by k_is) (by exact fun _ => rfl) (by rfl) fun L hL G1 => ?_
  refine W_execs_cons (W_TryV G1.ok rfl (W_execs_cons (W_Return (W_CallMethod (W_name (W_loadGlobal (W_builtinName G1 (by k_is) PyProof.Rows.Boot.«dict» (by decide) ?_)))))))
  refine W_getFromkeys G1 (by k_is) fun x hx => ?_
  refine W_callWith rfl (fun σ => σ x = some (.exact fkObj)) (fun σ φ m h hP hA => keep_fk σ φ m h hP hA) (W_args (W_arg1 (W_lr rfl (by rfl) ⟨Led.set_self, ?_⟩)))
  refine W_callFk Led.set_self (WC_fkT (x := y) hh (by exact G1.unit (k := 1) (by decide)) (Led.set_old hp hx) (Led.set_old hy hx) ?_)
  intro a T ha hT hne
  refine ⟨W_name (W_loadGlobal (W_builtinName (G1.mark _) (by k_is) PyProof.Rows.Boot.«TypeError» (by decide) ⟨?_, rfl, rfl⟩)), ?_⟩
  · exact meets_builtin PySem.F.isExc_TypeError PySem.F.notTuple_TypeError (by rw [isSubtype_type]; kernel_rfl)
  refine W_execs_cons (W_If (W_isTrue_Not (W_isTrue (W_lb rfl (by rfl) (W_truthyBool ?_)))))
  refine W_execs_cons (W_RaiseBare rfl rfl ha hT hne (h _ (Led.le_set hx)))
end Mine
end
section
namespace Mine
/-! small sets of small numbers, their tables told -/
noncomputable def tab (led : Bool) (P : List Nat) : SetTable := { mask := 7, place := ⟨P⟩, dummies := ⟨[]⟩, finger := 0, led := led, moves := 0, plain := true }
noncomputable def subs : Nat → List (List Nat)
  | 0 => [[]]
  | n + 1 => subs n ++ (subs n).flatMap fun P => ((List.range 8).filter fun a => P.length == n && P.all fun b => decide (b < a)).map fun a => P ++ [a]
noncomputable def insL {α : Type} (xs : List α) (p : Nat) (x : α) : List α := xs.take p ++ x :: xs.drop p
noncomputable def stepB (led : Bool) (P : List Nat) (h : Nat) : Bool :=
  match (tab led P).freeSlot (h : Int) with
  | some (j, false) => let p := SetTable.below ⟨P⟩ j; decide (p ≤ P.length) && (subs (P.length + 1)).contains (insL P p j)
  | _ => false
theorem stepB_all : ((subs 2).all fun P => (List.range 9).all fun h => stepB true P h && stepB false P h) = true := by decide +kernel
noncomputable def slotAt (P : List Nat) : Nat → Nat
  | 0 => 0
  | i + 1 => P[i]?.getD 0 + 1
theorem walkB_all : ((subs 3).all fun P => (List.range (P.length + 1)).all fun i => SetTable.below ⟨P⟩ (slotAt P i) == i) = true := by decide +kernel
theorem subs_mono {n m : Nat} (h : n ≤ m) {P : List Nat} (hP : P ∈ subs n) : P ∈ subs m := by
  induction h with
  | refl => exact hP
  | step _ ih => unfold subs; exact List.mem_append_left _ ih
theorem insertAt_list {α : Type} (xs : List α) (p : Nat) (x : α) : SetTable.insertAt ⟨xs⟩ p x = ⟨insL xs p x⟩ := by
  unfold SetTable.insertAt insL
  apply Array.ext'
  simp
  exact List.take_of_length_le (by simp)
/-- where a new number is laid -/
theorem lay_step {led : Bool} {P : List Nat} (hP : P ∈ subs 2) {h : Nat} (hh : h < 9) : ∃ j p, (tab led P).freeSlot (h : Int) = some (j, false) ∧ (tab led P).put j = (tab led (insL P p j), p) ∧ p ≤ P.length ∧ insL P p j ∈ subs (P.length + 1) := by
  have q := List.all_eq_true.mp (List.all_eq_true.mp stepB_all P hP) h (List.mem_range.mpr hh)
  simp only [Bool.and_eq_true] at q
  have q1 : stepB led P h = true := by cases led; exact q.2; exact q.1
  unfold stepB at q1
  split at q1
  · rename_i j e
    simp only [Bool.and_eq_true, decide_eq_true_eq] at q1
    refine ⟨j, SetTable.below ⟨P⟩ j, e, ?_, q1.1, List.contains_iff_mem.mp q1.2⟩
    unfold SetTable.put tab
    simp only [insertAt_list]
    have : SetTable.has ⟨[]⟩ j = false := by unfold SetTable.has; simp
    rw [this]; rfl
  · cases q1
theorem walk_step {P : List Nat} (hP : P ∈ subs 3) {i : Nat} (hi : i ≤ P.length) : SetTable.below ⟨P⟩ (slotAt P i) = i := by
  have q := List.all_eq_true.mp (List.all_eq_true.mp walkB_all P hP) i (List.mem_range.mpr (by omega))
  exact beq_iff_eq.mp q
noncomputable def byText (w : World) : Bool := w.params.followText "set-order"
/-- the entries of a set of small numbers -/
noncomputable def smallEs (es : List (Int × Value)) (ks : List Nat) : Prop := es.map (fun e => (e.1, er e.2)) = ks.map fun (k : Nat) => ((k : Int), AV.int k)
noncomputable def SetIs (w : World) (ks : List Nat) (o : Obj) : Prop := o.ExactSet ∧ ks.Nodup ∧ (∀ k ∈ ks, k < 9) ∧ ∃ (es : List (Int × Value)) (ep : Nat) (P : List Nat), o.data = .set ⟨es⟩ ep (tab (!byText w) P) ∧ P ∈ subs P.length ∧ P.length = es.length ∧ smallEs es ks
theorem smallEs.len {es : List (Int × Value)} {ks : List Nat} (h : smallEs es ks) : es.length = ks.length := by
  have := congrArg List.length h; simpa using this
theorem smallEs.get {es : List (Int × Value)} {ks : List Nat} (h : smallEs es ks) {i : Nat} {e : Int × Value} (he : es[i]? = some e) : ∃ (k : Nat) (t : Tok), ks[i]? = some k ∧ e = ((k : Int), .int k t) := by
  have q := congrArg (fun l : List (Int × AV) => l[i]?) h
  simp only [List.getElem?_map, he, Option.map_some] at q
  cases hk : ks[i]? with
  | none => rw [hk] at q; cases q
  | some k =>
    rw [hk] at q
    obtain ⟨h', x⟩ := e
    simp only [Option.map_some, Option.some.injEq, Prod.mk.injEq] at q
    obtain ⟨t, rfl⟩ := er_int q.2
    exact ⟨k, t, rfl, by rw [q.1]⟩
theorem hash_small {k : Nat} (hk : k < 9) : hashInt (k : Int) = k := by
  have : ∀ k ∈ List.range 9, hashInt ((k : Nat) : Int) = k := by decide +kernel
  exact this k (List.mem_range.mpr hk)
theorem smallEs.elems {prog : Program} {w : World} {es : List (Int × Value)} {ks : List Nat} (h : smallEs es ks) (h9 : ∀ k ∈ ks, k < 9) : ElemsOf (intKind prog w) es := fun e he => by
  obtain ⟨i, hi⟩ := List.mem_iff_getElem?.mp he
  obtain ⟨k, t, hk, rfl⟩ := h.get hi
  exact ⟨⟨k, intKind_is _ _ _ _, (hash_small (h9 k (List.mem_of_getElem? hk))).symm⟩, rfl⟩
theorem fits_tab {led : Bool} {P : List Nat} (h : P.length ≤ 7) : (tab led P).fits P.length = true := by
  unfold SetTable.fits SetTable.fill tab
  simp only [List.size_toArray, List.length_nil, Nat.add_zero, BEq.rfl, Bool.true_and, decide_eq_true_eq]
  exact h
theorem small_find {prog : Program} {w : World} {es : List (Int × Value)} {ks : List Nat} (h : smallEs es ks) (k : Nat) : (es.findIdx? fun e => (intKind prog w).is k e.2) = none ↔ k ∉ ks := by
  rw [List.findIdx?_eq_none_iff]
  constructor
  · intro q hk
    obtain ⟨i, hi⟩ := List.mem_iff_getElem?.mp hk
    have hl : i < es.length := by rw [h.len]; exact (List.getElem?_eq_some_iff.mp hi).1
    obtain ⟨k', t, hk', e⟩ := h.get (List.getElem?_eq_getElem hl)
    rw [hi] at hk'; cases hk'
    have := q _ (List.getElem_mem hl)
    rw [e] at this
    exact absurd (intKind_is prog w k t) (by rw [this]; exact Bool.false_ne_true)
  · intro q e he
    obtain ⟨i, hi⟩ := List.mem_iff_getElem?.mp he
    obtain ⟨k', t, hk', rfl⟩ := h.get hi
    cases e : (intKind prog w).is k (.int k' t) with
    | false => rfl
    | true =>
      have := (intKind prog w).inj _ _ _ e (intKind_is prog w k' t)
      have : k = k' := by omega
      subst this
      exact absurd (List.mem_of_getElem? hk') q
theorem smallEs.ins {es : List (Int × Value)} {ks : List Nat} (h : smallEs es ks) (p k : Nat) (t : Tok) : smallEs (insL es p ((k : Int), .int k t)) (insL ks p k) := by
  unfold smallEs insL at *
  rw [List.map_append, List.map_cons, List.map_append, List.map_cons, List.map_take, List.map_drop, h, List.map_take, List.map_drop]
  rfl
theorem mem_insL {α : Type} {xs : List α} {p : Nat} {x y : α} : y ∈ insL xs p x ↔ y = x ∨ y ∈ xs := by
  unfold insL
  conv => rhs; rw [← List.take_append_drop p xs]
  simp only [List.mem_append, List.mem_cons]
  constructor
  · rintro (h | h | h)
    · exact .inr (.inl h)
    · exact .inl h
    · exact .inr (.inr h)
  · rintro (h | h | h)
    · exact .inr (.inl h)
    · exact .inl h
    · exact .inr (.inr h)
theorem nodup_insL {α : Type} {xs : List α} {p : Nat} {x : α} (h : xs.Nodup) (hx : x ∉ xs) : (insL xs p x).Nodup := by
  have q : (insL xs p x).Perm (x :: xs) := by
    unfold insL
    refine (List.perm_middle).trans ?_
    rw [List.take_append_drop]
  exact q.nodup_iff.mpr (List.nodup_cons.mpr ⟨hx, h⟩)
theorem len_insL {α : Type} {xs : List α} {p : Nat} {x : α} : (insL xs p x).length = xs.length + 1 := by
  unfold insL; rw [List.length_append, List.length_cons, List.length_take, List.length_drop]; omega
section
variable {prog : Program} {w : World} {A : Around} {E : Value → Shared → Prop}
/-- a small number more -/
theorem setAdd_small {s : Shared} {a : Addr} {o : Obj} {ks : List Nat} {k : Nat} {t : Tok} {Q : Bool → Shared → Prop} (ho : s.heap.get? a = some o) (hs : SetIs w ks o) (hl : ks.length ≤ 2) (hk : k < 9)
    (h : ∀ b h' tk o' ks', Heap.SameBut a s.heap h' → h'.get? a = some o' → SetIs w ks' o' → ks'.length ≤ ks.length + 1 → (∀ x, x ∈ ks' ↔ x = k ∨ x ∈ ks) → Q b { s with heap := h', toks := tk }) : wpAny (model prog w) A (setAdd a (.int k t)) Q E s := by
  obtain ⟨hx, hn, h9, es, ep, P, hd, hP, hPl, hes⟩ := hs
  have hel : ElemsOf (intKind prog w) es := hes.elems h9
  have hlen : es.length ≤ 2 := by rw [hes.len]; exact hl
  have hf : (tab (!byText w) P).fits (⟨es⟩ : Array (Int × Value)).size = true := by
    show (tab (!byText w) P).fits es.length = true
    rw [← hPl]; exact fits_tab (by omega)
  have hkey : (intKind prog w).is (k : Int) (.int k t) = true := intKind_is _ _ _ _
  unfold setAdd
  refine wpAny_holding (wpAny_bind ((intKind prog w).pyHash hkey ?_))
  unfold setAddHashed setAddHashedIn
  refine wpAny_holding (wpAny_bind (wpAny_setState_of (s := { s with toks := s.toks + 1 }) ho hd hf ?_))
  dsimp only
  rw [byScan_of (knd := intKind prog w) rfl (by show es.length < 4096; omega) hel]
  simp only [↓reduceIte]
  unfold setAddByScan
  refine wpAny_bind (wpAny_bind (wpAny_rule ?_))
  refine wpAny_bind (wpAny_setScan_of (s := { s with toks := s.toks + 1 }) hkey ho hd hf hel ?_)
  show wpAny _ _ (match (match (es.findIdx? fun e => (intKind prog w).is (k : Int) e.2) with | some j => ScanMet.found (0 + j) | none => .absent) with | .found _ => _ | .anew => _ | .absent => _) _ _ _
  cases hr : (es.findIdx? fun e => (intKind prog w).is (k : Int) e.2) with
  | some j =>
    have hm : k ∈ ks := Classical.byContradiction fun z => by rw [(small_find hes k).mpr z] at hr; cases hr
    refine wpAny_pure (wpAny_pure ?_)
    exact h _ s.heap _ o ks (Heap.SameBut.refl a s.heap) ho ⟨hx, hn, h9, es, ep, P, hd, hP, hPl, hes⟩ (by omega) fun x => ⟨.inr, fun q => q.elim (fun e => e ▸ hm) id⟩
  | none =>
    have hm : k ∉ ks := (small_find hes k).mp hr
    obtain ⟨j, p, hfree, hput, hp, hP'⟩ := lay_step (led := !byText w) (subs_mono (by omega) hP) hk
    have hP2 : (insL P p j).length = (insL es p ((k : Int), .int k t)).length := by rw [len_insL, len_insL, hPl]
    have hL : layNew (tab (!byText w) P) ⟨es⟩ ((intKind prog w).hash (k : Int)) (.int k t) = (⟨insL es p ((k : Int), .int k t)⟩, tab (!byText w) (insL P p j), false, false) := by
      have e1 : (intKind prog w).hash (k : Int) = k := hash_small hk
      have e2 : (tab (!byText w) (insL P p j)).fits (insL es p ((k : Int), Value.int k t)).length = true := by rw [← hP2]; exact fits_tab (by rw [len_insL]; omega)
      rw [e1]
      unfold layNew
      rw [hfree]
      dsimp only
      rw [hput]
      dsimp only
      rw [insertAt_list]
      unfold SetTable.orStandIn
      show (_, (if (tab (!byText w) (insL P p j)).fits (insL es p ((k : Int), Value.int k t)).length = true then _ else _), _, (!(tab (!byText w) (insL P p j)).fits (insL es p ((k : Int), Value.int k t)).length)) = _
      rw [e2]; rfl
    dsimp only
    rw [hL]
    dsimp only
    refine wpAny_bind (wpAny_pure ?_)
    rw [if_pos (show (tab (!byText w) (insL P p j)).plain = true from rfl)]
    rw [hashByValue_scannable 8 (show (Value.int k t).scannable = true from rfl)]
    refine wpAny_bind (wpAny_pure ?_)
    have hful : (tab (!byText w) (insL P p j)).tooFull = false := by
      unfold SetTable.tooFull SetTable.fill tab
      simp only [List.size_toArray, List.length_nil, Nat.add_zero, decide_eq_false_iff_not, ge_iff_le]
      rw [len_insL]; omega
    have hz : (insL es p ((k : Int), Value.int k t)).length ≤ sizeLine := by
      have : 100 ≤ sizeLine := by decide
      rw [len_insL]; omega
    refine wpAny_bind (wpAny_storeSet_of (s := { s with toks := s.toks + 1 }) (es' := ⟨insL es p ((k : Int), .int k t)⟩) ho hd ?_ hz)
    rw [if_pos (show plainKind (Value.int (k : Int) t) = true from rfl), hful]
    refine wpAny_pure (wpAny_pure ?_)
    have hg : (s.heap.update a (Obj.putSet ⟨insL es p ((k : Int), .int k t)⟩ (tab (!byText w) (insL P p j)))).get? a = some { o with data := .set ⟨insL es p ((k : Int), .int k t)⟩ (ep + 1) (tab (!byText w) (insL P p j)) } := by
      have := Heap.get?_update_self (Obj.putSet ⟨insL es p ((k : Int), .int k t)⟩ (tab (!byText w) (insL P p j))) ho (by rw [putSet_of _ _ hd]; rfl)
      rw [putSet_of _ _ hd] at this; exact this
    refine h _ _ _ _ (insL ks p k) (Heap.SameBut.update s.heap a _) hg ⟨hx, nodup_insL hn hm, fun x q => ?_, _, ep + 1, insL P p j, rfl, by rw [len_insL]; exact hP', hP2, hes.ins p k t⟩ (by rw [len_insL]; omega) fun x => mem_insL
    rcases mem_insL.mp q with e | e
    · rw [e]; exact hk
    · exact h9 x e
end
end Mine
end
section
set_option maxRecDepth 100000
namespace Mine
section
variable {prog : Program} {w : World} {A : Around} {E : Value → Shared → Prop}
/-- the turns of set(list) -/
theorem updLoop {R : Result → Shared → Prop} {l I S : Addr} {items : Array Value} {ns : List Nat} (hh : A.handled = none) (hSI : S ≠ I) (hSl : S ≠ l) (hlI : l ≠ I) (hn : ∀ (i : Nat) (v : Value), items[i]? = some v → ∃ (k : Nat) (t : Tok), ns[i]? = some k ∧ v = .int k t)
    (hlen : items.size = ns.length) (h9 : ∀ k ∈ ns, k < 9) (h3 : ns.length ≤ 3) : ∀ (j i : Nat) (s : Shared) (o : Obj) (ks : List Nat), items.size - i = j → i ≤ items.size → s.heap.IsListIter I l i → s.heap.IsList l items → s.heap.get? S = some o → SetIs w ks o →
    ks.length ≤ i → (∀ x, x ∈ ks ↔ x ∈ ns.take i) → (∀ h' tk o' ks', (∀ b o, b ≠ S → b ≠ I → s.heap.get? b = some o → h'.get? b = some o) → h'.get? S = some o' → SetIs w ks' o' → (∀ x, x ∈ ks' ↔ x ∈ ns) → R (.ok (.ret .none)) { s with heap := h', toks := tk }) →
    codeAny (model prog w) A (.builtin "set.update.loop" ⟨[.ref S, .ref I], []⟩) R s := by
  intro j
  induction j with
  | zero =>
    intro i s o ks hj hi hit hl ho hs hk hm h
    refine codeAny_builtin PyProof.Rows.F.entry_set_update_loop ?_
    rw [Around.under_plainId PyProof.Rows.F.plain_set_update_loop _]
    show wpAny _ A.in1 (pyNext (.ref I) >>= _) _ _ s
    refine wpAny_bind (wpAny_pyNext_list_end (by exact hh) hit hl (by simp; omega) fun h' he => ?_)
    refine wpAny_pure (h h' s.toks o ks (fun b ob hb1 hb2 e => he b ob hb2 e) (he _ _ hSI ho) hs fun x => ?_)
    rw [hm x, List.take_of_length_le (by omega)]
  | succ j ih =>
    intro i s o ks hj hi hit hl ho hs hk hm h
    have hlt : i < items.size := by omega
    obtain ⟨k, t, hki, hv⟩ := hn i items[i] (Array.getElem?_eq_getElem hlt)
    refine codeAny_builtin PyProof.Rows.F.entry_set_update_loop ?_
    rw [Around.under_plainId PyProof.Rows.F.plain_set_update_loop _]
    show wpAny _ A.in1 (pyNext (.ref I) >>= _) _ _ s
    refine wpAny_bind (wpAny_pyNext_list_item hit hl (x := items[i]) (by simp [hlt]) fun h₁ hit₁ hs₁ => ?_)
    have ho₁ : h₁.get? S = some o := (hs₁.2 S hSI).trans ho
    rw [hv]
    show wpAny _ A.in1 (holding [Value.int k t] (setAdd S (.int k t)) >>= _) _ _ _
    refine wpAny_bind (wpAny_holding (setAdd_small (s := { s with heap := h₁ }) ho₁ hs (by omega) (h9 k (List.mem_of_getElem? hki)) fun b h₂ tk o₂ ks₂ hb₂ ho₂ hs₂ hl₂ hm₂ => ?_))
    refine wpAny_pure ⟨plainId_quiet PyProof.Rows.F.plain_set_update_loop _, ih (i + 1) { s with heap := h₂, toks := tk } o₂ ks₂ (by omega) hlt ?_ ?_ ho₂ hs₂ (by omega) (fun x => ?_) fun h' tk' o' ks' hk' ho' hs' hm' => ?_⟩
    · obtain ⟨oi, q1, q2⟩ := hit₁
      exact ⟨oi, (hb₂.2 I (Ne.symm hSI)).trans q1, q2⟩
    · obtain ⟨oi, q1, q2⟩ := hl
      exact ⟨oi, (hb₂.2 l (Ne.symm hSl)).trans ((hs₁.2 l hlI).trans q1), q2⟩
    · rw [hm₂ x, hm x, List.take_add_one, hki, List.mem_append]
      simp [or_comm]
    · exact h h' tk' o' ks' (fun b ob hb1 hb2 e => hk' b ob hb1 hb2 ((hb₂.2 b hb1).trans ((hs₁.2 b hb2).trans e))) ho' hs' hm'
/-- set.__new__ with an argument: whose order the world tells -/
theorem setNew1 {s : Shared} (a : Value) {Q : Value → Shared → Prop} (h : Q (.ref s.heap.objs.size) { s with heap := s.heap.push { cls := .type "set", dict := none, data := .set #[] 0 (.fresh 0 0 (!byText w)) } }) :
    codeAny (model prog w) A (.call (.builtin "set.__new__") ⟨[.type "set", a], []⟩) (wants Q E) s := by
  refine codeAny_of_tree ?_
  show wpAny _ A.in1 (do checkBuiltinCall "set.__new__" ⟨[.type "set", a], []⟩; again (.builtin "set.__new__" ⟨[.type "set", a], []⟩)) _ _ s
  refine wpAny_bind (wpAny_of_eq (PySem.F.newCall_set_1 a) (wpAny_pure ⟨plainId_quiet PySem.F.plain_set_new _, codeAny_builtin PySem.F.entry_set_new ?_⟩))
  rw [Around.under_plainId PySem.F.plain_set_new _]
  unfold Builtin.«set.__new__» Builtin.Frozenset.newClass
  have hsub := sub_set_self
  obtain ⟨hp, g, d, tk, os⟩ := s
  dsimp only
  wp_walk
  refine wpAny_askSetting (wpAny_pure ?_)
  dsimp only
  simp only [newObj]
  exact wpAny_bind (wpAny_alloc (wpAny_pure (wpAny_pure h)))
set_option maxHeartbeats 4000000 in
/-- set(list) of at most three small numbers -/
theorem callSet {s : Shared} {l : Addr} {items : Array Value} {ns : List Nat} {Q : Value → Shared → Prop} (hh : A.handled = none) (hl : s.heap.IsList l items) (hn : ∀ (i : Nat) (v : Value), items[i]? = some v → ∃ (k : Nat) (t : Tok), ns[i]? = some k ∧ v = .int k t)
    (hlen : items.size = ns.length) (h9 : ∀ k ∈ ns, k < 9) (h3 : ns.length ≤ 3)
    (h : ∀ h' tk o ks, (∀ b o, s.heap.get? b = some o → h'.get? b = some o) → h'.get? s.heap.objs.size = some o → SetIs w ks o → (∀ x, x ∈ ks ↔ x ∈ ns) → Q (.ref s.heap.objs.size) { s with heap := h', toks := tk }) :
    wpAny (model prog w) A (call (.type "set") [.ref l]) Q E s := by
  obtain ⟨c, tl, hmro⟩ := PySem.F.called_set.mro
  have hmade := PySem.F.called_set.made
  have hsub := PySem.F.called_set.sub
  refine wpAny_call (codeAny_of_tree ?_)
  show wpAny _ _ (callAny (.type "set") _) _ _ _
  refine wpAny_pure ⟨Code.quiet_builtin _ (by decide +kernel), codeAny_builtin PySem.F.entry_type_call ?_⟩
  rw [Around.under_plain (weight_type_call_type "set" [.ref l] []) rfl]
  have h1 := PySem.F.called_set.notType
  have h2 := PySem.F.called_set.canCreate
  have hct := PySem.F.typeCall_set_1 (.ref l)
  repeat (any_goals (first | assumption | wp_step))
  refine codeAny_mono (setNew1 (.ref l) (E := E) (Q := fun obj s₁ => obj = .ref s.heap.objs.size ∧ s₁ = { s with heap := s.heap.push { cls := .type "set", dict := none, data := .set #[] 0 (.fresh 0 0 (!byText w)) } }) ⟨rfl, rfl⟩) fun r s₁ hr => ?_
  cases r with
  | error e => exact hr
  | ok fl =>
    cases fl with
    | ret obj =>
      obtain ⟨rfl, rfl⟩ := hr
      have hS : (s.heap.push { cls := .type "set", dict := none, data := .set #[] 0 (.fresh 0 0 (!byText w)) }).get? s.heap.objs.size = some { cls := .type "set", dict := none, data := .set #[] 0 (.fresh 0 0 (!byText w)) } := Heap.get?_push_size _ rfl
      have hT : Shared.TypeIs { s with heap := s.heap.push { cls := .type "set", dict := none, data := .set #[] 0 (.fresh 0 0 (!byText w)) } } (.ref s.heap.objs.size) "set" := ⟨_, hS, rfl⟩
      have hli := PySem.F.called_set.init.lookup
      have hbi := PySem.F.called_set.init.bind (.ref s.heap.objs.size)
      repeat (any_goals (first | assumption | wp_step))
      refine codeAny_mono (codeAny_call_builtin (R := wants (fun r s₂ => r = .none ∧ ∃ h' tk o ks, s₂ = { s with heap := h', toks := tk } ∧ (∀ b o, s.heap.get? b = some o → h'.get? b = some o) ∧ h'.get? s.heap.objs.size = some o ∧ SetIs w ks o ∧ ∀ x, x ∈ ks ↔ x ∈ ns) E)
        PySem.F.called_set.init.plain PySem.F.entry_set_init (check_set_init_1 hT ?_)) fun r₂ s₂ hr₂ => ?_
      · obtain ⟨⟨ocls, odict, odata, oslots⟩, hol, hcl, nl, hdl⟩ := hl
        simp only at hcl hdl
        subst hcl; subst hdl
        have hol' : (s.heap.push { cls := .type "set", dict := none, data := .set #[] 0 (.fresh 0 0 (!byText w)) }).get? l = some { cls := .type "list", dict := odict, data := .seq items nl, slots := oslots } := Heap.get?_push_of_some _ hol
        have hsls := PySem.F.sub_list_set
        have hslf := PySem.F.sub_list_frozenset
        have hne : (Value.type "list" == Value.type "dict") = false := by decide
        have hl1 : (s.heap.push { cls := .type "set", dict := none, data := .set #[] 0 (.fresh 0 0 (!byText w)) }).IsList l items := ⟨_, hol', rfl, nl, rfl⟩
        unfold Builtin.«set.__init__» noKeywords Builtin.Frozenset.updateFrom
        generalize hPI : pyIter = PI
        wp_walk
        subst hPI
        refine wpAny_pyIter_list hl1 ?_
        refine wpAny_bind (wpAny_runValue ?_)
        have hlS : l < s.heap.objs.size := Heap.lt_size hol
        have hI : (s.heap.push { cls := .type "set", dict := none, data := .set #[] 0 (.fresh 0 0 (!byText w)) }).objs.size = s.heap.objs.size + 1 := Heap.size_push ..
        refine updLoop (l := l) (ns := ns) (I := (s.heap.push { cls := .type "set", dict := none, data := .set #[] 0 (.fresh 0 0 (!byText w)) }).objs.size) (by simp [hh]) (by rw [hI]; exact Nat.ne_of_lt (Nat.lt_succ_self _)) (Nat.ne_of_gt hlS) (by rw [hI]; exact Nat.ne_of_lt (Nat.lt_succ_of_lt hlS)) hn hlen h9 h3 (items.size - 0) 0 _ _ [] rfl (Nat.zero_le _)
          ⟨_, Heap.get?_push_size _ rfl, rfl, rfl⟩ (hl1.push _) (Heap.get?_push_of_some _ hS) ⟨⟨rfl, rfl, rfl⟩, List.nodup_nil, fun k hk => (nomatch hk), [], 0, [], rfl, List.mem_singleton.mpr rfl, rfl, rfl⟩ (Nat.le_refl _) (fun x => by simp) fun h' tk o' ks' hk ho hs hm => ?_
        refine wpAny_pure ?_
        show wpAny _ _ (ret Value.none) _ _ _
        refine wpAny_pure ⟨rfl, h', tk, o', ks', rfl, fun b ob e => hk b ob (Nat.ne_of_lt (Heap.lt_size e)) (by rw [hI]; exact Nat.ne_of_lt (Nat.lt_succ_of_lt (Heap.lt_size e))) (Heap.get?_push_of_some _ (Heap.get?_push_of_some _ e)), ho, hs, hm⟩
      · cases r₂ with
        | error e => exact hr₂
        | ok fl₂ =>
          cases fl₂ with
          | ret r =>
            obtain ⟨rfl, h', tk, o, ks, rfl, q1, q2, q3, q4⟩ := hr₂
            repeat (any_goals (first | assumption | wp_step))
            exact h _ _ _ _ q1 q2 q3 q4
          | _ => exact hr₂.elim
    | _ => exact hr.elim
end
end Mine
end
section
set_option maxRecDepth 100000
namespace Mine
theorem slot_si_next : Slot "set_iterator" "__next__" "set_iterator.__next__" :=
  .of (owner := "set_iterator") (n := "__next__") (by rw [typeLookup_type, builtinLookup_eq_fast]; kernel_rfl) (by decide +kernel) (by decide +kernel) (by decide +kernel)
    (by first | exact .inl (by decide +kernel) | exact .inr (by decide +kernel)) (by rw [isSubtype_type]; kernel_rfl)
theorem slot_si_iter : Slot "set_iterator" "__iter__" "set_iterator.__iter__" :=
  .of (owner := "set_iterator") (n := "__iter__") (by rw [typeLookup_type, builtinLookup_eq_fast]; kernel_rfl) (by decide +kernel) (by decide +kernel) (by decide +kernel)
    (by first | exact .inl (by decide +kernel) | exact .inr (by decide +kernel)) (by rw [isSubtype_type]; kernel_rfl)
theorem entry_si_next : entryFor table "set_iterator.__next__" = some Builtin.«set_iterator.__next__» := entryFor_of_tree (by kernel_rfl)
theorem entry_si_iter : entryFor table "set_iterator.__iter__" = some Builtin.«dict_keyiterator.__iter__» := entryFor_alias (id' := "dict_keyiterator.__iter__") (by kernel_rfl) rfl (by decide +kernel) (by kernel_rfl)
theorem entry_set_it : entryFor table "set.__iter__" = some Builtin.«frozenset.__iter__» := entryFor_alias (id' := "frozenset.__iter__") (by kernel_rfl) rfl (by decide +kernel) (by kernel_rfl)
theorem owner_si : Manifest.owners.lookup (String.ofList ['r', 'o', 't', 'a', 'r', 'e', 't', 'i', '_', 't', 'e', 's'].reverse) = some Manifest.sig_set_iterator := by kernel_rfl
theorem args_si_next (a : Value) : argsOk "set_iterator.__next__" ⟨[a], []⟩ := by
  unfold argsOk; rw [signature?_of (id := "set_iterator.__next__") (n := ['_', '_', 't', 'x', 'e', 'n', '_', '_']) (o := ['r', 'o', 't', 'a', 'r', 'e', 't', 'i', '_', 't', 'e', 's']) (by kernel_rfl) owner_si]; kernel_rfl
theorem args_si_iter (a : Value) : argsOk "set_iterator.__iter__" ⟨[a], []⟩ := by
  unfold argsOk; rw [signature?_of (id := "set_iterator.__iter__") (n := ['_', '_', 'r', 'e', 't', 'i', '_', '_']) (o := ['r', 'o', 't', 'a', 'r', 'e', 't', 'i', '_', 't', 'e', 's']) (by kernel_rfl) owner_si]; kernel_rfl
/-! the order of a set by the text -/
theorem pick_go {α : Type} (next : Nat → Nat) : ∀ (fuel k : Nat) (left : List α) (out : Array α), left.length = fuel → (pickOrder.go next fuel k left out).toList.Perm (out.toList ++ left)
  | 0, k, left, out, h => by
    have : left = [] := List.length_eq_zero_iff.mp h
    subst this
    unfold pickOrder.go; simp
  | fuel + 1, k, left, out, h => by
    unfold pickOrder.go
    have hl : next k % left.length < left.length := Nat.mod_lt _ (by omega)
    rw [List.getElem?_eq_getElem hl]
    dsimp only
    have e : (left.eraseIdx (next k % left.length)).length = fuel := by rw [List.length_eraseIdx_of_lt hl]; omega
    refine (pick_go next fuel (k + 1) _ _ e).trans ?_
    rw [Array.toList_push, List.append_assoc]
    refine List.Perm.append_left _ ?_
    generalize hj : next k % left.length = j at hl ⊢
    rw [List.eraseIdx_eq_take_drop_succ]
    refine (List.perm_middle (l₁ := left.take j)).symm.trans ?_
    rw [← List.drop_eq_getElem_cons hl, List.take_append_drop]
theorem pick_perm {α : Type} (next : Nat → Nat) (xs : List α) : (pickOrder next ⟨xs⟩).toList.Perm xs := by
  have := pick_go next xs.length 0 xs #[] rfl
  simpa [pickOrder] using this
noncomputable def IsSetIter (h : Heap) (I r : Addr) (slot i n ep : Nat) : Prop := ∃ o, h.get? I = some o ∧ o.cls = .type "set_iterator" ∧ o.data = .fields #[.int slot 0, .int i 0, .ref r, .int n 0, .int ep 0]
theorem IsSetIter.typeIs {s : Shared} {I r : Addr} {slot i n ep : Nat} (x : IsSetIter s.heap I r slot i n ep) : s.TypeIs (.ref I) "set_iterator" := let ⟨o, ho, hc, _⟩ := x; ⟨o, ho, hc⟩
/-- the very set -/
structure SmallSet (w : World) (o : Obj) (es : List (Int × Value)) (ep : Nat) (P : List Nat) : Prop where
  cls : o.cls = .type "set"
  data : o.data = .set ⟨es⟩ ep (tab (!byText w) P)
  sub : P ∈ subs 3
  len : P.length = es.length
  le : es.length ≤ 3
noncomputable def ordOf (w : World) (r : Addr) (es : List (Int × Value)) (ep : Nat) : List (Int × Value) := if byText w then (pickOrder (w.params.setOrder r ep) ⟨es⟩).toList else es
theorem ordOf_perm {w : World} {r : Addr} {es : List (Int × Value)} {ep : Nat} : (ordOf w r es ep).Perm es := by
  unfold ordOf; split
  · exact pick_perm _ _
  · exact .refl _
noncomputable def slotIs (w : World) (P : List Nat) (i : Nat) : Nat := if byText w then 0 else slotAt P i
section
variable {prog : Program} {w : World} {A : Around} {E : Value → Shared → Prop} {s : Shared} {r I : Addr} {o : Obj} {es : List (Int × Value)} {ep : Nat} {P : List Nat}
theorem SmallSet.fits (S : SmallSet w o es ep P) : (tab (!byText w) P).fits (⟨es⟩ : Array (Int × Value)).size = true := by
  show (tab (!byText w) P).fits es.length = true
  rw [← S.len]; exact fits_tab (by rw [S.len]; have := S.le; omega)
theorem iter_set {Q : Value → Shared → Prop} (ho : s.heap.get? r = some o) (S : SmallSet w o es ep P) (h : Q (.ref s.heap.objs.size) { s with heap := s.heap.push { cls := .type "set_iterator", data := .fields #[.int (0 : Nat) 0, .int (0 : Nat) 0, .ref r, .int es.length 0, .int ep 0] } }) :
    wpAny (model prog w) A (pyIter (.ref r)) Q E s := by
  have hT : s.TypeIs (.ref r) "set" := ⟨o, ho, S.cls⟩
  refine wpAny_pyIter_slot hT PySem.F.slot_set_iter (wpAny_call_entry PySem.F.slot_set_iter hT entry_set_it ?_ (PySem.F.args_set_iter_1 _))
  show wpAny _ _ (Builtin.Frozenset.sizeOf r >>= _) _ _ s
  unfold Builtin.Frozenset.sizeOf
  refine wpAny_bind (wpAny_bind (wpAny_setEntries_of ho S.data S.fits (wpAny_pure ?_)))
  refine wpAny_bind ?_
  refine wpAny_bind (wpAny_setState_of ho S.data S.fits ?_)
  dsimp only
  unfold setsByText
  refine wpAny_bind (wpAny_bind (wpAny_askSetting (wpAny_pure ?_)))
  refine wpAny_pure ?_
  rw [if_neg (by show ¬ ((!byText w) && (!true && _)) = true; simp)]
  refine wpAny_bind (wpAny_pure ?_)
  refine wpAny_bind (wpAny_setEpoch_of ho S.data S.fits ?_)
  refine wpAny_bind ?_
  exact wpAny_newObj_type (wpAny_pure ⟨_, rfl, "set_iterator", _, ⟨_, Heap.get?_push_size _ rfl, rfl⟩, slot_si_next.lookup, h⟩)
theorem setNext_is {i : Nat} {Q : Option (Value × Nat) → Shared → Prop} (hi : i ≤ es.length) (ho : s.heap.get? r = some o) (S : SmallSet w o es ep P) (h : Q ((ordOf w r es ep)[i]?.map fun e => (e.2, slotIs w P (i + 1))) s) :
    wpAny (model prog w) A (setNext r (slotIs w P i) i ep) Q E s := by
  unfold setNext
  refine wpAny_bind (wpAny_setState_of ho S.data S.fits ?_)
  dsimp only
  unfold setsByText
  refine wpAny_bind (wpAny_bind (wpAny_askSetting (wpAny_pure ?_)))
  show wpAny _ _ (if byText w = true then _ else _) _ _ s
  cases hb : byText w with
  | true =>
    rw [if_pos rfl, if_neg (by simp)]
    unfold setWalk
    refine wpAny_bind (wpAny_bind (wpAny_setState_of ho S.data S.fits ?_))
    dsimp only
    unfold setsByText
    refine wpAny_bind (wpAny_bind (wpAny_askSetting (wpAny_pure ?_)))
    show wpAny _ _ (if byText w = true then _ else _) _ _ s
    rw [hb, if_pos rfl]
    refine wpAny_bind (wpAny_askSetting (wpAny_pure ?_))
    refine wpAny_pure ?_
    have e1 : slotIs w P i = 0 := by unfold slotIs; rw [hb]; rfl
    have e2 : slotIs w P (i + 1) = 0 := by unfold slotIs; rw [hb]; rfl
    have e3 : ordOf w r es ep = (pickOrder (w.params.setOrder r ep) ⟨es⟩).toList := by unfold ordOf; rw [hb]; rfl
    rw [e2, e3, Array.getElem?_toList] at h
    rw [e1]
    exact h
  | false =>
    rw [if_neg (by simp)]
    rw [if_neg (by show ¬ ((!true && _)) = true; simp)]
    refine wpAny_bind ?_
    show wpAny _ _ (if (!(!false) && _) = true then _ else _) _ _ s
    rw [if_neg (by simp)]
    refine wpAny_pure ?_
    have e1 : slotIs w P i = slotAt P i := by unfold slotIs; rw [hb]; rfl
    have e2 : slotIs w P (i + 1) = slotAt P (i + 1) := by unfold slotIs; rw [hb]; rfl
    have e3 : ordOf w r es ep = es := by unfold ordOf; rw [hb]; rfl
    have e4 : SetTable.below (tab (!false) P).place (slotIs w P i) = i := by rw [e1]; exact walk_step S.sub (by rw [S.len]; exact hi)
    rw [e4]
    refine wpAny_pure ?_
    rw [e2, e3] at h
    have e5 : (⟨es⟩ : Array (Int × Value))[i]? = es[i]? := by simp
    have e6 : (tab (!false) P).place[i]? = P[i]? := by show (⟨P⟩ : Array Nat)[i]? = _; simp
    rw [e5, e6]
    cases he : es[i]? with
    | none => rw [he] at h; exact h
    | some e =>
      rw [he] at h
      have hl : i < P.length := by rw [S.len]; exact (List.getElem?_eq_some_iff.mp he).1
      have hp : P[i]? = some P[i] := List.getElem?_eq_getElem hl
      have : slotAt P (i + 1) = P[i] + 1 := by show P[i]?.getD 0 + 1 = _; rw [hp]; rfl
      rw [this] at h
      rw [hp]
      exact h
/-- the next one -/
theorem next_set {i : Nat} {e : Int × Value} {Q : Option Value → Shared → Prop} (hI : IsSetIter s.heap I r (slotIs w P i) i es.length ep) (ho : s.heap.get? r = some o) (S : SmallSet w o es ep P) (he : (ordOf w r es ep)[i]? = some e)
    (h : ∀ h', IsSetIter h' I r (slotIs w P (i + 1)) (i + 1) es.length ep → Heap.SameBut I s.heap h' → Q (some e.2) { s with heap := h' }) : wpAny (model prog w) A (pyNext (.ref I)) Q E s := by
  obtain ⟨oI, hoI, hcI, hdI⟩ := id hI
  have hi : i ≤ es.length := by have := (List.getElem?_eq_some_iff.mp he).1; rw [ordOf_perm.length_eq] at this; omega
  unfold pyNext
  refine wpAny_bind (wpAny_attempt (wpAny_callSpecial?_slot (name := Str.ofString "__next__") hI.typeIs slot_si_next (wpAny_call_entry slot_si_next hI.typeIs entry_si_next ?_ (args_si_next _))))
  show wpAny _ _ (fieldsOf (.ref I) >>= _) _ _ s
  refine wpAny_bind (wpAny_fieldsOf hoI hdI ?_)
  dsimp only
  refine wpAny_bind (wpAny_setEntries_of ho S.data S.fits ?_)
  rw [if_neg (by simp)]
  simp only [Int.toNat_natCast]
  refine wpAny_bind (setNext_is hi ho S ?_)
  rw [he]
  show wpAny _ _ (setField (.ref I) 0 (rawInt ((slotIs w P (i + 1) : Nat) : Int)) >>= _) _ _ s
  refine wpAny_bind (wpAny_setField hoI hdI (by simp) ?_)
  have ho1 := Heap.get?_update_self (Obj.mapFields (·.setIfInBounds 0 (rawInt ((slotIs w P (i + 1) : Nat) : Int)))) hoI (Obj.isFreed_of_fields (Obj.data_mapFields hdI _))
  refine wpAny_bind (wpAny_setField ho1 (Obj.data_mapFields hdI _) (by simp) ?_)
  have ho2 := Heap.get?_update_self (Obj.mapFields (·.setIfInBounds 1 (rawInt ((i : Int) + 1)))) ho1 (Obj.isFreed_of_fields (Obj.data_mapFields (Obj.data_mapFields hdI _) _))
  refine wpAny_pure ⟨e.2, rfl, wpAny_pure (h _ ⟨_, ho2, ?_, ?_⟩ ?_)⟩
  · rw [Obj.cls_mapFields, Obj.cls_mapFields]; exact hcI
  · rw [Obj.data_mapFields (Obj.data_mapFields hdI _)]; simp [rawInt]
  · exact (Heap.SameBut.update ..).trans (Heap.SameBut.update ..)
theorem end_set {Q : Option Value → Shared → Prop} (hh : A.handled = none) (hI : IsSetIter s.heap I r (slotIs w P es.length) es.length es.length ep) (ho : s.heap.get? r = some o) (S : SmallSet w o es ep P)
    (h : ∀ h', Heap.ExtBut I s.heap h' → Q none { s with heap := h' }) : wpAny (model prog w) A (pyNext (.ref I)) Q E s := by
  obtain ⟨oI, hoI, hcI, hdI⟩ := id hI
  unfold pyNext
  refine wpAny_bind (wpAny_attempt (wpAny_callSpecial?_slot (name := Str.ofString "__next__") hI.typeIs slot_si_next (wpAny_call_entry slot_si_next hI.typeIs entry_si_next ?_ (args_si_next _))))
  show wpAny _ _ (fieldsOf (.ref I) >>= _) _ _ s
  refine wpAny_bind (wpAny_fieldsOf hoI hdI ?_)
  dsimp only
  refine wpAny_bind (wpAny_setEntries_of ho S.data S.fits ?_)
  rw [if_neg (by simp)]
  simp only [Int.toNat_natCast]
  refine wpAny_bind (setNext_is (Nat.le_refl _) ho S ?_)
  have hn : (ordOf w r es ep)[es.length]? = none := by rw [List.getElem?_eq_none]; rw [ordOf_perm.length_eq]; exact Nat.le_refl _
  rw [hn]
  show wpAny _ _ (setField (.ref I) 2 .none >>= _) _ _ s
  refine wpAny_bind (wpAny_setField hoI hdI (by simp) ?_)
  refine wpAny_bind ?_
  simp only [newExc, newTuple]
  refine wpAny_bind (wpAny_newObj_type ?_ (by size_fits))
  refine wpAny_bind (m := firstArgMember _ _) (wpAny_of_eq (a := Value.none) (by first | rfl | (simp only [firstArgMember]; rfl)) ?_)
  refine wpAny_newObj_type ?_ (by size_fits)
  simp only [raiseNew]
  refine wpAny_bind (wpAny_handled ?_)
  rw [show A.in1.handled = none from hh]
  refine wpAny_bind (wpAny_pure (wpAny_throw ?_))
  refine wpAny_bind (wpAny_isInstance (T := "StopIteration") (b := true) ⟨_, Heap.get?_push_size _ rfl, rfl⟩ isSubtype_stop ?_)
  exact wpAny_pure (h _ (((Heap.SameBut.update ..).extBut.push _).push _))
theorem hint_set {Q : Bool → Shared → Prop} (hT : s.TypeIs (.ref r) "set") (h : Q false s) : wpAny (model prog w) A (Builtin.List.listLengthHint (.ref r)) Q E s := by
  unfold Builtin.List.listLengthHint
  refine wpAny_bind (wpAny_specialOf hT PySem.F.slot_set_len.lookup ?_)
  generalize hid : ("set.__len__" : String) = id0
  wp_delta
  rw [show splitId id0 = some ("set", "__len__") from by subst hid; decide +kernel]
  subst hid
  refine wpAny_bind (wpAny_isInstance (T := "set") (b := true) hT (by rw [isSubtype_type]; kernel_rfl) ?_)
  refine wpAny_ite_split (fun hab => absurd hab (by decide)) (fun _ => ?_)
  refine wpAny_ite_split (fun _ => ?_) (fun hab => absurd (by decide +kernel) hab)
  refine wpAny_bind (wpAny_typeOf hT ?_)
  exact wpAny_pure h
theorem self_set {slot i n : Nat} {Q : Value → Shared → Prop} (hI : IsSetIter s.heap I r slot i n ep) (h : Q (.ref I) s) : wpAny (model prog w) A (pyIter (.ref I)) Q E s := by
  refine wpAny_pyIter_slot hI.typeIs slot_si_iter (wpAny_call_entry slot_si_iter hI.typeIs entry_si_iter ?_ (args_si_iter _))
  show wpAny _ _ (ret (.ref I)) _ _ s
  exact wpAny_pure ⟨_, rfl, "set_iterator", _, hI.typeIs, slot_si_next.lookup, h⟩
theorem IsSetIter.at {h h' : Heap} {slot i n : Nat} (x : IsSetIter h I r slot i n ep) (e : ∀ o, h.get? I = some o → h'.get? I = some o) : IsSetIter h' I r slot i n ep := let ⟨o, ho, q⟩ := x; ⟨o, e _ ho, q⟩
theorem walks_set (hh : A.handled = none) (hne : r ≠ I) (S : SmallSet w o es ep P) : Walks prog w A I [I, r] [I] es.length (fun i v => ∃ e, (ordOf w r es ep)[i]? = some e ∧ v = e.2) (fun i h => IsSetIter h I r (slotIs w P i) i es.length ep ∧ h.get? r = some o) where
  sub := fun b hb => by simp at hb; simp [hb]
  frame := fun _ _ _ st hk => ⟨st.1.at fun o e => hk I (by simp) o e, hk r (by simp) _ st.2⟩
  item := fun i s Q E hi st hQ => by
    obtain ⟨e, he⟩ : ∃ e, (ordOf w r es ep)[i]? = some e := ⟨_, List.getElem?_eq_getElem (by rw [ordOf_perm.length_eq]; exact hi)⟩
    exact next_set st.1 st.2 S he fun h' hI' hs => hQ e.2 h' s.toks ⟨e, he, rfl⟩ ⟨hI', (hs.2 r hne).trans st.2⟩ fun b o hb e => (hs.2 b fun z => hb (by simp [z])).trans e
  done := fun s Q E st hQ => end_set hh st.1 st.2 S fun h' he => hQ h' s.toks fun b o hb e => he b o (fun z => hb (by simp [z])) e
  self := fun i s Q E st hQ => self_set st.1 hQ
theorem src_set (S : SmallSet w o es ep P) : KdlSrc prog w "set" r r es.length (fun i v => ∃ e, (ordOf w r es ep)[i]? = some e ∧ v = e.2) (fun h => h.get? r = some o) where
  type := fun s ho => ⟨o, ho, S.cls⟩
  there := fun h ho => ⟨Heap.lt_size ho, Heap.lt_size ho⟩
  keep := fun h h' ho hk => hk r (.inl rfl) _ ho
  notList := by decide
  notTuple := by decide
  hint := fun _ _ s _ ho hq => hint_set ⟨o, ho, S.cls⟩ hq
  iter := fun A s hh ho => ⟨{ cls := .type "set_iterator", data := .fields #[.int (0 : Nat) 0, .int (0 : Nat) 0, .ref r, .int es.length 0, .int ep 0] }, _, fun _ _ hq => iter_set ho S hq, walks_set hh (Nat.ne_of_lt (Heap.lt_size ho)) S,
    ⟨⟨_, Heap.get?_push_size _ rfl, rfl, by
      have : slotIs w P 0 = 0 := by unfold slotIs slotAt; split <;> rfl
      rw [this]⟩, Heap.get?_push_of_some _ ho⟩⟩
noncomputable def natOf : AV → Nat
  | .int i => i.toNat
  | _ => 0
/-- what a small set gives, in some order -/
theorem collect_set {ks : List Nat} {R : List Value → Shared → Prop} (hh : A.handled = none) (ho : s.heap.get? r = some o) (hs : SetIs w ks o) (hl : ks.length ≤ 3)
    (h : ∀ (h' : Heap) (tk : Nat) (vs : List Value) (ks' : List Nat), (∀ b o, s.heap.get? b = some o → h'.get? b = some o) → vs.map er = ks'.map (fun (k : Nat) => AV.int k) → ks'.Perm ks → R vs { s with heap := h', toks := tk }) : wpAny (model prog w) A (collect (.ref r)) R E s := by
  obtain ⟨hx, hn, h9, es, ep, P, hd, hP, hPl, hes⟩ := hs
  have S : SmallSet w o es ep P := ⟨hx.1, hd, subs_mono (by rw [hPl, hes.len]; exact hl) hP, hPl, by rw [hes.len]; exact hl⟩
  have hsz : 1000000 ≤ sizeLine := by decide
  refine kdu_collect (A := A) (src_set (r := r) S) hh ho (by have := S.le; omega) fun h' tk acc hk hacc => ?_
  have q := (ordOf_perm (w := w) (r := r) (es := es) (ep := ep)).map fun e => er e.2
  have e1 : es.map (fun e => er e.2) = ks.map fun (k : Nat) => AV.int k := by
    have := congrArg (List.map Prod.snd) hes
    rw [List.map_map, List.map_map] at this
    exact this
  rw [e1] at q
  have e2 : acc.toList.map er = (ordOf w r es ep).map fun e => er e.2 := by
    refine List.ext_getElem? fun i => ?_
    rw [List.getElem?_map, List.getElem?_map]
    cases hv : acc.toList[i]? with
    | none =>
      have : (ordOf w r es ep)[i]? = none := by
        rw [List.getElem?_eq_none_iff, ordOf_perm.length_eq]
        have h1 := List.getElem?_eq_none_iff.mp hv
        have h2 := hacc.1
        rw [Array.length_toList] at h1
        omega
      rw [this]; rfl
    | some v =>
      obtain ⟨e, he, rfl⟩ := hacc.2 i v (by rw [← Array.getElem?_toList]; exact hv)
      rw [he]; rfl
  rw [← e2] at q
  obtain ⟨ks', hp, e3⟩ : ∃ ks' : List Nat, ks'.Perm ks ∧ acc.toList.map er = ks'.map fun (k : Nat) => AV.int k := by
    refine ⟨(acc.toList.map er).map natOf, ?_, ?_⟩
    · have := q.map natOf
      rw [List.map_map (f := fun (k : Nat) => AV.int k)] at this
      rw [show (natOf ∘ fun (k : Nat) => AV.int (k : Int)) = id from funext fun k => by show ((k : Int)).toNat = k; simp, List.map_id] at this
      exact this
    · rw [List.map_map]
      refine (List.map_id _).symm.trans (List.map_congr_left fun x hx => ?_)
      obtain ⟨k, _, rfl⟩ := List.mem_map.mp (q.mem_iff.mp hx)
      show AV.int (k : Int) = AV.int ((((k : Int)).toNat : Nat) : Int)
      simp
  exact h h' tk acc.toList ks' hk e3 hp
end
end Mine
end
section
set_option maxRecDepth 100000
namespace Mine
section
variable {c : Cx} {E : Value → Loc → Led → Prop} {m : Loc} {σ : Led} {env : Env}
theorem iv_items {vs : List Value} {ns : List Nat} (h : vs.map er = ns.map iv) (i : Nat) (v : Value) (hv : vs[i]? = some v) : ∃ (k : Nat) (t : Tok), ns[i]? = some k ∧ v = .int k t := by
  have q := congrArg (fun l : List AV => l[i]?) h
  simp only [List.getElem?_map, hv, Option.map_some] at q
  cases hk : ns[i]? with
  | none => rw [hk] at q; cases q
  | some k =>
    rw [hk] at q
    simp only [Option.map_some, Option.some.injEq] at q
    obtain ⟨t, e⟩ := er_int q
    exact ⟨k, t, rfl, e⟩
theorem W_setOf {l : Addr} {ns : List Nat} {Q : Value → Loc → Led → Prop} (hh : c.A.handled = none) (hl : σ l = some (AI ns)) (h9 : ∀ k ∈ ns, k < 9) (h3 : ns.length ≤ 3)
    (h : ∀ a ks, σ a = none → ks.Nodup → (∀ x, x ∈ ks ↔ x ∈ ns) → Q (.ref a) m (σ.set a (.like (SetIs c.w ks)))) : W c (call (.type "set") [.ref l]) Q E m σ := fun φ s hd hA => by
  obtain ⟨vs, n, ho, hv⟩ := list_led hA hl
  refine callSet (items := vs.toArray) (ns := ns) hh ⟨_, ho, rfl, n, rfl⟩ (fun i v q => iv_items hv i v (by simpa using q)) (by simpa using len_er hv) h9 h3 fun h' tk o ks hk ho' hs hm => ?_
  exact PQ.new (ao := .like (SetIs c.w ks)) hd hA hk ho' hs (Nat.le_refl _) fun ha => h _ ks ha hs.2.1 hm
theorem W_sortedSet {r : Addr} {ks : List Nat} {Q : Value → Loc → Led → Prop} (hh : c.A.handled = none) (hr : σ r = some (.like (SetIs c.w ks))) (h3 : ks.length ≤ 3)
    (h : ∀ a (ns' : List Nat), σ a = none → ns'.Perm ks → ns'.Pairwise (· ≤ ·) → Q (.ref a) m (σ.set a (AI ns'))) : W c (call (.builtin "sorted") [.ref r]) Q E m σ := by
  refine W_sortedAny (P := fun ns => ∃ ks' : List Nat, ks'.Perm ks ∧ ns = ks'.map fun (k : Nat) => (k : Int)) (fun φ s hd hA => ?_) fun a ns ns' hP ha hp hs => ?_
  · obtain ⟨o, ho, hok⟩ := hA.led r _ (Led.un_left hr)
    refine collect_set (A := c.A.in1) hh ho hok h3 fun h' tk vs ks' hk hv hp => ?_
    refine PQ.more hd hA hk ⟨rfl, rfl, _, ⟨ks', hp, rfl⟩, ?_, ?_⟩
    · rw [List.length_map, hp.length_eq]; omega
    · rw [hv, List.map_map]; rfl
  · obtain ⟨ks', hp', rfl⟩ := hP
    obtain ⟨nn, e, hpn⟩ : ∃ nn : List Nat, ns' = nn.map (fun (k : Nat) => (k : Int)) ∧ nn.Perm ks' := by
      refine ⟨ns'.map Int.toNat, ?_, ?_⟩
      · rw [List.map_map]
        refine (List.map_id _).symm.trans (List.map_congr_left fun x hx => ?_)
        obtain ⟨k, _, rfl⟩ := List.mem_map.mp (hp.mem_iff.mp hx)
        show (k : Int) = (((k : Int)).toNat : Nat)
        simp
      · have := hp.map Int.toNat
        rw [List.map_map] at this
        rw [show (Int.toNat ∘ fun (k : Nat) => (k : Int)) = id from funext fun k => by show ((k : Int)).toNat = k; simp, List.map_id] at this
        exact this
    subst e
    have := h a nn ha (hpn.trans hp') ?_
    · rw [show (AO.list ((nn.map fun (k : Nat) => (k : Int)).map AV.int)) = AI nn by rw [List.map_map]; rfl]
      exact this
    · rw [List.pairwise_map] at hs
      exact hs.imp fun q => by omega
end
end Mine
end
section
set_option maxRecDepth 100000
namespace Mine
section
variable {c : Cx} {E : Value → Loc → Led → Prop} {m : Loc} {σ : Led} {env : Env} {K : Params → Frag} {n : Nat}
theorem W_isNotSelf {a : Addr} {Q : Value → Loc → Led → Prop} (h : Q (.bool false) m σ) : W c (compareOp .IsNot (.ref a) (.ref a)) Q E m σ := W_val (fun _ _ _ _ q => wpAny_isNot_ref_self q) h
theorem W_rep9 {l : Addr} {x : AV} {u : Tok} {Q : Value → Loc → Led → Prop} (hl : σ l = some (.list [x])) (h : ∀ a, σ a = none → Q (.ref a) m (σ.set a (.list (List.replicate 9 x)))) : W c (binaryOp .Mult (.ref l) (.int 9 u)) Q E m σ := fun φ s hd hA => by
  obtain ⟨vs, k, ho, hv⟩ := list_led hA hl
  obtain ⟨v, vs', rfl, e1, hv'⟩ := map_er_cons hv
  have : vs' = [] := by cases vs' with | nil => rfl | cons _ _ => cases hv'
  subst this
  refine wpAny_binaryOp_repeat_ref (T := "list") (U := "int") (by decide) ⟨_, ho, rfl⟩ (fun s' => typeIs_int s' 9 u) noFill_list_mul PySem.F.fills_int_mul PySem.F.slot_int_rmul repeat_list PySem.F.slot_int_index.lookup
    (call_meets PySem.F.slot_int_rmul (typeIs_int s 9 u) PySem.F.entry_int_rmul (PySem.F.args_int_rmul_2 _ _) (int___rmul___int_list 9 u l #[v] k)
      ⟨ho, rfl, ⟨_, ho, rfl⟩, call_meets PySem.F.slot_list_mul ⟨_, ho, rfl⟩ PySem.F.entry_list_mul (PySem.F.args_list_mul_2 _ _) (AutoListH.list___mul___list_int_3 l #[v] k 9 u (by decide) (by show ¬ (1 * Int.toNat 9 > (2 ^ 63 - 1) / 8); decide) (by show ¬ Builtin.List.listTooLong (1 * Int.toNat 9) = true; decide +kernel)) ⟨ho, ?_⟩⟩)
  exact PQ.new (a := s.heap.objs.size) (tk := s.toks) (ao := .list (List.replicate 9 x)) hd hA (fun b o e => Heap.get?_push_of_some _ e) (Heap.get?_push_size _ rfl) ⟨List.replicate 9 v, 0, rfl, by rw [List.map_replicate, e1]⟩ (Nat.le_refl _) (h _)
theorem W_listRange {r : Addr} {k : Nat} {Q : Value → Loc → Led → Prop} (hh : c.A.handled = none) (hr : σ r = some (isRange 0 k 1)) (hs : Builtin.Range.small 0 k 1 = true) (hz : k ≤ 1000) (h : ∀ a, σ a = none → Q (.ref a) m (σ.set a (AI (List.range k)))) : W c (call (.type "list") [.ref r]) Q E m σ := fun φ s hd hA => by
  obtain ⟨o, ho, t, u, v, rfl⟩ := hA.led r _ (Led.un_left hr)
  have hsz : Builtin.Range.rangeSize 0 k 1 = k := by unfold Builtin.Range.rangeSize; simp; intro h; omega
  refine call_list_range (n := k) hh ho hs hsz (by omega) fun h' tk acc n' hk hS hacc => ?_
  refine PQ.new (ao := AI (List.range k)) hd hA hk hS ⟨acc.toList, n', by simp, ?_⟩ (Nat.le_refl _) (h _)
  refine List.ext_getElem? fun i => ?_
  rw [List.getElem?_map, List.getElem?_map]
  cases hv : acc.toList[i]? with
  | none =>
    have h1 := List.getElem?_eq_none_iff.mp hv
    rw [Array.length_toList, hacc.1] at h1
    rw [List.getElem?_eq_none (by simpa using h1)]; rfl
  | some v =>
    obtain ⟨t, rfl⟩ := hacc.2 i v (by rw [← Array.getElem?_toList]; exact hv)
    have h1 := (List.getElem?_eq_some_iff.mp hv).1
    rw [Array.length_toList, hacc.1] at h1
    rw [List.getElem?_range h1]
    show some (AV.int (0 + (i : Int) * 1)) = some (iv i)
    rw [Int.mul_one, Int.zero_add]
theorem W_And2 {x y : Expr} {pos : Pos} {Q : Value → Loc → Led → Prop} (h : W c (eval x env) (fun v m σ => W c (truthy v) (fun t m σ => if t then W c (eval y env) Q E m σ else Q v m σ) E m σ) E m σ) : W c (eval (.BoolOp .And [x, y] pos) env) Q E m σ := fun φ s hd hA =>
  wpAny_And2 (wpAny_mono (h φ s hd hA) (fun v s₁ z => by
    obtain ⟨h', tk', m', σ', rfl, hd', hA', hq⟩ := z
    refine wpAny_mono (hq φ _ hd' hA') (fun t s₂ z => ?_) fun _ _ q => q.re
    obtain ⟨h'', tk'', m'', σ'', rfl, hd'', hA'', hq'⟩ := z
    cases t with
    | true => exact wpAny_mono (hq' φ _ hd'' hA'') (fun _ _ z => z.re) fun _ _ q => q.re
    | false => exact ⟨h'', tk'', m'', σ'', rfl, hd'', hA'', hq'⟩) fun _ _ q => q)
end
end Mine
end
section
namespace Mine
/-- a part of the ledger that stays, beside what changes -/
structure Und (ψ τ : Led) (as : List Addr) : Prop where
  le : ψ.le τ
  off : ∀ a ∈ as, ψ a = none
  on : ∀ a ∈ as, ∃ o, τ a = some o
section
variable {ψ τ τ' : Led} {as : List Addr} {a : Addr} {o : AO}
theorem Und.refl (ψ : Led) : Und ψ ψ [] := ⟨Led.le.refl ψ, fun _ h => (nomatch h), fun _ h => (nomatch h)⟩
theorem Und.more (h : Und ψ τ as) (hle : τ.le τ') : Und ψ τ' as := ⟨h.le.trans hle, h.off, fun a ha => let ⟨o, e⟩ := h.on a ha; ⟨o, hle _ _ e⟩⟩
theorem Und.new (h : Und ψ τ as) (ha : τ a = none) : Und (ψ.set a o) (τ.set a o) as :=
  ⟨h.le.set2, fun b hb => by
    obtain ⟨o', e⟩ := h.on b hb
    exact (Led.set_ne (ne_of_led e ha)).trans (h.off b hb), fun b hb => by
    obtain ⟨o', e⟩ := h.on b hb
    exact ⟨o', Led.set_old e ha⟩⟩
theorem Und.add (h : Und ψ τ as) (ha : τ a = none) : Und ψ (τ.set a o) (a :: as) :=
  ⟨h.le.trans (Led.le_set ha), fun b hb => by
    rcases List.mem_cons.mp hb with rfl | hb
    · exact h.le.none ha
    · exact h.off b hb, fun b hb => by
    by_cases q : b = a
    · subst q; exact ⟨o, Led.set_self⟩
    · rcases List.mem_cons.mp hb with e | hb
      · exact absurd e q
      · obtain ⟨o', e⟩ := h.on b hb
        exact ⟨o', Led.set_old e ha⟩⟩
theorem Und.upd (h : Und ψ τ as) (ha : a ∈ as := by simp) : Und ψ (τ.set a o) as :=
  ⟨h.le.set (h.off a ha), h.off, fun b hb => by
    by_cases q : b = a
    · subst q; exact ⟨o, Led.set_self⟩
    · obtain ⟨o', e⟩ := h.on b hb
      exact ⟨o', (Led.set_ne q).trans e⟩⟩
theorem Und.none (h : Und ψ τ as) (ha : τ a = Option.none) : ψ a = Option.none := h.le.none ha
end
end Mine
end
section
namespace Mine
theorem fillL1B : (fun (_ : OpenLaw) (_ : Params → Frag) => True) PySem.Challenge.rw_nq0156_01 Mine.hd.heap_1 := by
  k_fill; trivial
namespace L1
set_option maxRecDepth 100000 in
set_option maxHeartbeats 1000000 in
/-- _law_same of two lists with the very same items -/
theorem lawSame {c : Cx} {E : Value → Loc → Led → Prop} {m : Loc} {σ : Led} {Q : Value → Loc → Led → Prop} {pt pd : Addr} {xs : List AV} (G : Good Mine.hd.heap_1 2 c) (hh : c.A.handled = none)
    (ht : σ pt = some (.list xs)) (hd : σ pd = some (.list xs)) (hk : ∀ x ∈ xs, (∃ b, x = .bool b) ∨ ∃ a, x = .ref a) (hz : xs.length ≤ 1000) (h : Q (.bool true) m σ) : W c (call (.ref 197) [.ref pt, .ref pd]) Q E m σ := by
  have hsz : 1000000 ≤ sizeLine := by decide
  refine W_keep (W_fnC [("told", .ref pt), ("due", .ref pd)] G (by k_is) (by k_is) (by rfl) (by rfl) fun L hL G1 => ?_)
  show W _ _ _ _ _ ((σ.set (L + 1) (.cell (some (.ref pt)))).set (L + 2) (.cell (some (.ref pd))))
  obtain ⟨hle, c1, c2⟩ := cells2 (o1 := .cell (some (.ref pt))) (o2 := .cell (some (.ref pd))) hL
  generalize ((σ.set (L + 1) (.cell (some (.ref pt)))).set (L + 2) (.cell (some (.ref pd)))) = σ₁ at hle c1 c2 ⊢
  refine W_execs_cons (W_Return (W_And2 (W_Compare (W_bcall G1 (by k_is) PyProof.Rows.Boot.«len» (W_arg1 (W_cr (by rfl) c1 (W_len (.inl (hle _ _ ht)) (by omega) fun t => ?_)))))))
  refine W_bcall G1 (by k_is) PyProof.Rows.Boot.«len» (W_arg1 (W_cr (by rfl) c2 (W_len (.inl (hle _ _ hd)) (by omega) fun t => ?_)))
  refine W_eqInt (W_truthyBool ?_)
  rw [beq_self_eq_true, if_pos rfl]
  refine W_Compare (W_ListComp (by rfl) (W_bcall G1 (by k_is) boot_range (W_arg1 (W_bcall G1 (by k_is) PyProof.Rows.Boot.«len» (W_arg1 (W_cr (by rfl) c2 (W_len (.inl (hle _ _ hd)) (by omega) fun t => W_range1 fun r hr => ?_)))))))
  refine W_itR (a := 0) (b := xs.length) (st := 1) (k := xs.length) (τ := σ₁) (fun _ => false) (fun _ => .none) (by exact hh) Led.set_self (small_one (by omega) (by omega) (by omega) (by omega)) (by rw [rangeSize_one]; split <;> omega) (by omega) (Led.le_set hr) (fun C j t m' hj => ?_) (fun a ha => ?_)
  · rw [show (0 : Int) + 1 * (j : Nat) = (j : Nat) by omega]
    have hx : xs[j]? = some xs[j] := List.getElem?_eq_getElem hj
    refine W_assignName (W_storeLocal rfl (W_tests_one (W_isTrue_Compare (W_Compare (W_Subscript (W_cr (by rfl) c1 (W_li rfl (by rfl) fun t => W_item (x := xs[j]) (hle _ _ ht) (by omega) (by simp [hx]) (by omega) fun v hv => ?_)))))))
    refine W_Subscript (W_cr (by rfl) c2 (W_li rfl (by rfl) fun t => W_item (x := xs[j]) (hle _ _ hd) (by omega) (by simp [hx]) (by omega) fun u hu => ?_))
    rcases hk xs[j] (List.getElem_mem hj) with ⟨b, e⟩ | ⟨a, e⟩
    · rw [e] at hv hu
      rw [er_bool hv, er_bool hu]
      refine W_isNotBool (W_truthyBool ⟨by cases b <;> rfl, ?_⟩)
      rw [if_neg (by cases b <;> decide)]
      exact Led.le.refl _
    · rw [e] at hv hu
      rw [er_ref hv, er_ref hu]
      refine W_isNotSelf (W_truthyBool ⟨rfl, ?_⟩)
      rw [if_neg (by decide)]
      exact Led.le.refl _
  · refine W_List (W_items_nil (W_newList fun e he => ?_))
    have e0 : (List.map (fun _ => AV.none) (List.filter (fun _ => false) (List.range xs.length))) = [] := by rw [List.filter_eq_nil_iff.mpr (by simp)]; rfl
    rw [e0] at he ⊢
    exact W_eqI G1 (Led.set_old Led.set_self he) (xs := []) (ys := []) Led.set_self ⟨σ, hle.trans ((Led.le_set ha).trans (Led.le_set he)), h⟩
set_option maxRecDepth 100000 in
set_option maxHeartbeats 1000000 in
/-- _law_refused of a row of lists -/
theorem lawRefused {c : Cx} {E : Value → Loc → Led → Prop} {m : Loc} {σ : Led} {Q : Value → Loc → Led → Prop} {p : Addr} {xs : List AV} (G : Good Mine.hd.heap_1 6 c) (hh : c.A.handled = none)
    (hp : σ p = some (.list xs)) (hk : ∀ x ∈ xs, ∃ a ys, x = .ref a ∧ σ a = some (.list ys)) (h : Q (.bool (!xs.isEmpty)) m σ) : W c (call (.ref 192) [.ref p]) Q E m σ := by
  refine W_keep (W_fn [("row", .ref p)] G (by k_is) (by k_is) (by rfl) (by rfl) fun L hL G1 => ?_)
  refine W_execs_cons (W_Try G1.ok rfl ?_)
  cases xs with
  | nil =>
    refine W_execs_cons (W_Expr (W_gcall G1 (by k_is) (by k_is) (W_arg1 (W_lr rfl (by rfl) ?_))))
    refine dedH (l := []) (G1.le (by decide)) hh hp (fun q hq => (nomatch hq)) (by decide) fun a ep ha => ?_
    exact W_execs_cons (W_Return (W_constBool ⟨σ, Led.le_set ha, h⟩))
  | cons x xs =>
    obtain ⟨a, ys, rfl, ha⟩ := hk x (.head _)
    refine W_execs_cons (W_Expr (W_gcall G1 (by k_is) (by k_is) (W_arg1 (W_lr rfl (by rfl) ?_))))
    refine dedR (G1.le (by decide)) hh hp ha fun τ hle e => ?_
    refine W_name (W_loadGlobal (W_builtinName (G1.mark _) (by k_is) PyProof.Rows.Boot.«TypeError» (by decide) ⟨?_, ?_⟩))
    · exact meets_builtin PySem.F.isExc_TypeError PySem.F.notTuple_TypeError (by rw [isSubtype_type]; kernel_rfl)
    · exact W_execs_cons (W_Return (W_constBool ⟨σ, hle, h⟩))
noncomputable def grpF (N : List (List Nat)) (left : List Nat) : List Nat := left.filter fun i => (nd N i).all fun x => !left.contains x
noncomputable def leftK (N : List (List Nat)) : Nat → List Nat
  | 0 => List.range 9
  | k + 1 => (leftK N k).filter fun i => !(grpF N (leftK N k)).contains i
noncomputable def grpK (N : List (List Nat)) (k : Nat) : List Nat := grpF N (leftK N k)
theorem none_left (l F : List Nat) : decide (l.filter (fun x => F.contains x) = []) = l.all fun x => !F.contains x := by
  rw [Bool.eq_iff_iff, decide_eq_true_eq, List.filter_eq_nil_iff, List.all_eq_true]
  simp
theorem leftK_lt {N : List (List Nat)} : ∀ k, ∀ x ∈ leftK N k, x < 9
  | 0, x, h => List.mem_range.mp h
  | k + 1, x, h => leftK_lt k x (List.mem_filter.mp h).1
theorem leftK_less {N : List (List Nat)} {k : Nat} (h : grpK N k ≠ []) : (leftK N (k + 1)).length < (leftK N k).length := by
  obtain ⟨x, hx⟩ : ∃ x, x ∈ grpK N k := by
    cases e : grpK N k with
    | nil => exact absurd e h
    | cons x _ => exact ⟨x, .head _⟩
  have hl : x ∈ leftK N k := (List.mem_filter.mp hx).1
  exact List.length_filter_lt_length_iff_exists.mpr ⟨x, hl, by rw [show (grpF N (leftK N k)).contains x = true from List.contains_iff_mem.mpr hx]; decide⟩
theorem leftK_len {N : List (List Nat)} : ∀ k, (leftK N k).length ≤ 9
  | 0 => by simp [leftK]
  | k + 1 => Nat.le_trans (List.length_filter_le _ _) (leftK_len k)
/-- between the rounds -/
inductive FouI (N : List (List Nat)) (σ : Led) (L pn pg : Addr) (n : Nat) (m' : Loc) (τ : Led) : Prop
  | mk (h1 : m' "groups" = some (.ref pg)) (k : Nat) (ψ : Led) (v3 : Option AV) (pl : Addr) (ys : List AV) (U : Und ψ τ [pg, L + 3, L + 2]) (le : σ.le ψ) (c1 : ψ (L + 1) = some (.cell (some (.ref pn)))) (c2 : τ (L + 2) = some (.cell (some (.ref pl)))) (c3 : τ (L + 3) = some (.cell v3))
    (cg : τ pg = some (.list ys)) (hl : ψ pl = some (AI (leftK N k))) (hr : RDs ψ (((List.range k).map (grpK N)).map dI) ys) (ne : ∀ j, j < k → grpK N j ≠ []) (hn : n = (leftK N k).length) (hk : k + (leftK N k).length ≤ 9) : FouI N σ L pn pg n m' τ
set_option maxRecDepth 100000 in
set_option maxHeartbeats 2000000 in
theorem lawFounded {c : Cx} {E : Value → Loc → Led → Prop} {m : Loc} {σ : Led} {Q : Value → Loc → Led → Prop} {pn : Addr} {N : List (List Nat)} (G : Good Mine.hd.heap_1 2 c) (hh : c.A.handled = none)
    (hN : RD σ (dII N) (.ref pn)) (h9 : N.length = 9) (hz : ∀ i, (nd N i).length ≤ 1000) (h : ∀ a σ' k, σ.le σ' → k ≤ 9 → grpK N k = [] → (∀ j, j < k → grpK N j ≠ []) → RD σ' (dII ((List.range k).map (grpK N))) (.ref a) → Q (.ref a) m σ') : W c (call (.ref 180) [.ref pn]) Q E m σ := by
  have hsz : 1000000 ≤ sizeLine := by decide
  refine W_fnC [("members", .ref pn)] G (by k_is) (by k_is) (by rfl) (by rfl) fun L hL G1 => ?_
  show W _ _ _ _ _ (((σ.set (L + 1) (.cell (some (.ref pn)))).set (L + 2) (.cell none)).set (L + 3) (.cell none))
  have n1 : σ (L + 1) = none := hL _ (Nat.le_add_right _ _)
  have e2 : (σ.set (L + 1) (.cell (some (.ref pn)))) (L + 2) = none := (Led.set_ne (Ane (by decide))).trans (hL _ (Nat.le_add_right _ _))
  have e3 : ((σ.set (L + 1) (.cell (some (.ref pn)))).set (L + 2) (.cell none)) (L + 3) = none := (Led.set_ne (Ane (by decide))).trans ((Led.set_ne (Ane (by decide))).trans (hL _ (Nat.le_add_right _ _)))
  have U0 := ((Und.refl (σ.set (L + 1) (.cell (some (.ref pn))))).add (o := .cell none) e2).add (o := .cell none) e3
  have c10 : (σ.set (L + 1) (.cell (some (.ref pn)))) (L + 1) = some (.cell (some (.ref pn))) := Led.set_self
  have c20 : (((σ.set (L + 1) (.cell (some (.ref pn)))).set (L + 2) (.cell none)).set (L + 3) (.cell none)) (L + 2) = some (.cell none) := Led.set_old Led.set_self e3
  have c30 : (((σ.set (L + 1) (.cell (some (.ref pn)))).set (L + 2) (.cell none)).set (L + 3) (.cell none)) (L + 3) = some (.cell none) := Led.set_self
  have le0 := Led.le_set (o := .cell (some (.ref pn))) n1
  generalize (((σ.set (L + 1) (.cell (some (.ref pn)))).set (L + 2) (.cell none)).set (L + 3) (.cell none)) = τ₀ at U0 c20 c30 ⊢
  generalize (σ.set (L + 1) (.cell (some (.ref pn)))) = ψ₀ at U0 c10 le0
  clear e2 e3
  -- left = list(range(9)), groups = []
  refine W_execs_cons (W_Assign_Cell (by rfl) (W_bcall G1 (by k_is) boot_list (W_arg1 (W_bcall G1 (by k_is) boot_range (W_arg1 (W_constInt fun t => W_range1 fun r hr => W_listRange (k := 9) (by exact hh) Led.set_self (by decide) (by decide) fun pl hpl => ⟨⟨none, Led.set_old (Led.set_old c20 hr) hpl⟩, ?_⟩))))))
  have hpl' := (Led.le_set (o := isRange 0 9 1) hr).none hpl
  have U1 := ((U0.more (Led.le_set (o := isRange 0 9 1) hr)).new (o := AI (List.range 9)) hpl).upd (a := L + 2) (o := .cell (some (.ref pl)))
  have ple := Led.le_set (o := AI (List.range 9)) (U0.none hpl')
  refine W_execs_cons (W_Assign_Name (W_List (W_items_nil (W_newList fun pg hpg => W_storeLocal rfl ?_))))
  have U2 := U1.add (o := .list (List.map er [])) hpg
  refine W_execs_cons (W_While G1.ok rfl (FouI N σ L pn pg) 9 ⟨by rfl, 0, ψ₀.set pl (AI (List.range 9)), none, pl, [], U2, le0.trans ple, ple _ _ c10, Led.set_old Led.set_self hpg, ?_, Led.set_self, Led.set_self, by exact rfl, fun j hj => absurd hj (Nat.not_lt_zero _), by simp [leftK], by simp [leftK]⟩ ?_)
  · exact Led.set_old ((Led.set_ne (Ane (L := L) (by decide))).trans (Led.set_old (Led.set_old c30 hr) hpl)) hpg
  rintro n m' τ ⟨hm1, k, ψ, v3, pl, ys, U, le, c1, c2, c3, cg, hl, hr, hne, rfl, hk⟩
  refine W_isTrue (W_constBool (W_truthyBool ?_))
  rw [if_pos rfl]
  have hN' : RD τ (dII N) (.ref pn) := hN.mono (le.trans U.le)
  have c1' := U.le _ _ c1
  have hl' := U.le _ _ hl
  -- group = [..]
  refine W_execs_cons (W_Assign_Cell (by rfl) (W_ListComp (by rfl) (W_cr (by rfl) c2 ?_)))
  refine W_itL (leftK N k) iv (fun i => (nd N i).all fun x => !(leftK N k).contains x) iv (by exact hh) hl' (Nat.le_trans (leftK_len k) (by decide)) (fun C j v m'' hj hv => ?_) (fun a ha => ⟨⟨v3, Led.set_old c3 ha⟩, ?_⟩)
  · obtain ⟨t, rfl⟩ := er_int hv
    have hj9 := leftK_lt k j hj
    refine W_assignName (W_storeLocal rfl (W_tests_one (W_isTrue_Compare (W_Compare (W_ListComp (by rfl) (W_Subscript (W_cr (by rfl) c1' (W_li rfl (by rfl) fun t => ?_))))))))
    refine W_itemII hN' (by rw [h9]; exact hj9) (by rw [h9]; decide) fun b hb => ?_
    rw [nd_get] at hb
    refine W_itL (nd N j) iv (fun x => (leftK N k).contains x) iv (by exact hh) hb (Nat.le_trans (hz j) (by decide)) (fun C' x v m₃ hx hv => ?_) fun a ha => ?_
    · obtain ⟨t, rfl⟩ := er_int hv
      refine W_assignName (W_storeLocal rfl (W_tests_one (W_isTrue_Compare (W_Compare (W_li rfl (by rfl) fun t => W_cr (by rfl) c2 (W_inI G1.comp.comp hl' (W_truthyBool ⟨rfl, ?_⟩)))))))
      cases hc : (leftK N k).contains x with
      | false => exact Led.le.refl _
      | true => exact W_lv rfl (by rfl) fun v hv => ⟨hv, Led.le.refl _⟩
    · refine W_List (W_items_nil (W_newList fun e he => ?_))
      refine W_eqI G1.comp (Led.set_old Led.set_self he) (ys := []) Led.set_self (W_truthyBool ?_)
      rw [none_left]
      refine ⟨rfl, ?_⟩
      have hl2 := (Led.le_set (o := AI ((nd N j).filter fun x => (leftK N k).contains x)) ha).trans (Led.le_set (o := .list (List.map er [])) he)
      cases hb2 : (nd N j).all fun x => !(leftK N k).contains x with
      | true => exact W_lv rfl (by rfl) fun v hv => ⟨hv, hl2⟩
      | false => exact hl2
  have U1 := (U.new (o := AI (grpK N k)) ha).upd (a := L + 3) (o := .cell (some (.ref a)))
  have ple := Led.le_set (o := AI (grpK N k)) (U.none ha)
  have ga : ((τ.set a (AI (grpK N k))).set (L + 3) (.cell (some (.ref a)))) a = some (AI (grpK N k)) := U1.le _ _ Led.set_self
  have d2 : ((τ.set a (AI (grpK N k))).set (L + 3) (.cell (some (.ref a)))) (L + 2) = some (.cell (some (.ref pl))) := (Led.set_ne (Ane (by decide))).trans (Led.set_old c2 ha)
  have d3 : ((τ.set a (AI (grpK N k))).set (L + 3) (.cell (some (.ref a)))) (L + 3) = some (.cell (some (.ref a))) := Led.set_self
  have hpg3 : pg ≠ L + 3 := fun e => by rw [e, c3] at cg; cases cg
  have hpg2 : pg ≠ L + 2 := fun e => by rw [e, c2] at cg; cases cg
  have dg : ((τ.set a (AI (grpK N k))).set (L + 3) (.cell (some (.ref a)))) pg = some (.list ys) := (Led.set_ne hpg3).trans (Led.set_old cg ha)
  have hya : (ψ.set a (AI (grpK N k))) a = some (AI (grpK N k)) := Led.set_self
  have ple' := le.trans ple
  have hr' := hr.mono ple
  have hl1 := ple _ _ hl
  have c11 := ple _ _ c1
  show W _ _ _ _ _ ((τ.set a (AI (grpK N k))).set (L + 3) (.cell (some (.ref a))))
  generalize ((τ.set a (AI (grpK N k))).set (L + 3) (.cell (some (.ref a)))) = τ₁ at U1 ga d2 d3 dg ⊢
  generalize (ψ.set a (AI (grpK N k))) = ψ₁ at U1 hya ple' hr' hl1 c11
  clear U hl' hN' c1' ha ple c2 c3 cg le hr hl c1
  -- if group == []
  refine W_execs_cons (W_If (W_isTrue_Compare (W_Compare (W_cr (by rfl) d3 (W_List (W_items_nil (W_newList fun e he => W_eqI G1 (Led.set_old ga he) (ys := []) Led.set_self (W_truthyBool ?_))))))))
  by_cases hg : grpK N k = []
  · rw [decide_eq_true hg]
    refine W_execs_cons (W_Return (W_lr rfl (by exact hm1) ?_))
    exact h pg _ k (ple'.trans (U1.le.trans (Led.le_set he))) (by omega) hg hne ⟨pg, ys, rfl, Led.set_old dg he, hr'.mono (U1.le.trans (Led.le_set he))⟩
  · rw [decide_eq_false hg]
    refine W_execs_nil (W_shrink (σ' := τ₁) (Led.le_set he) ?_)
    have hys : ys.length = k := by rw [hr'.length]; simp
    -- groups.append(group)
    refine W_execs_cons (W_Expr (W_CallMethod (W_lr rfl (by exact hm1) ?_)))
    refine W_getMethod_list PySem.F.slot_list_append PySem.F.type_list_append dg ?_
    refine W_callWithB (by intro a h; cases h) (W_arg1 (W_cr (by rfl) d3 ?_))
    refine W_append dg ?_ (by omega)
    have U2 := U1.upd (a := pg) (o := .list (ys ++ [.ref a]))
    have f2 : (τ₁.set pg (.list (ys ++ [.ref a]))) (L + 2) = some (.cell (some (.ref pl))) := (Led.set_ne (Ne.symm hpg2)).trans d2
    have f3 : (τ₁.set pg (.list (ys ++ [.ref a]))) (L + 3) = some (.cell (some (.ref a))) := (Led.set_ne (Ne.symm hpg3)).trans d3
    have fg : (τ₁.set pg (.list (ys ++ [.ref a]))) pg = some (.list (ys ++ [.ref a])) := Led.set_self
    show W _ _ _ _ _ (τ₁.set pg (.list (ys ++ [.ref a])))
    generalize (τ₁.set pg (.list (ys ++ [.ref a]))) = τ₂ at U2 f2 f3 fg ⊢
    -- left = [..]
    refine W_execs_cons (W_Assign_Cell (by rfl) (W_ListComp (by rfl) (W_cr (by rfl) f2 ?_)))
    refine W_itL (leftK N k) iv (fun i => !(grpK N k).contains i) iv (by exact hh) (U2.le _ _ hl1) (Nat.le_trans (leftK_len k) (by decide)) (fun C j v m'' hj hv => ?_) (fun b hb => ⟨⟨_, Led.set_old f2 hb⟩, ?_⟩)
    · obtain ⟨t, rfl⟩ := er_int hv
      refine W_assignName (W_storeLocal rfl (W_tests_one (W_isTrue_Compare (W_Compare (W_li rfl (by rfl) fun t => W_cr (by rfl) f3 (W_notInI G1.comp (U2.le _ _ hya) (W_truthyBool ⟨rfl, ?_⟩)))))))
      cases hc : (grpK N k).contains j with
      | true => exact Led.le.refl _
      | false => exact W_lv rfl (by rfl) fun v hv => ⟨hv, Led.le.refl _⟩
    · have less := leftK_less hg
      have pb := Led.le_set (o := AI (leftK N (k + 1))) (U2.none hb)
      refine W_execs_nil ⟨(leftK N (k + 1)).length, less, by exact hm1, k + 1, ψ₁.set b (AI (leftK N (k + 1))), _, b, _, (U2.new hb).upd, ple'.trans pb, pb _ _ c11, Led.set_self, (Led.set_ne (Ane (L := L) (i := 3) (j := 2) (by decide))).trans (Led.set_old f3 hb), (Led.set_ne hpg2).trans (Led.set_old fg hb), Led.set_self, ?_, fun j hj => ?_, rfl, by omega⟩
      · rw [List.range_succ, List.map_append, List.map_append]
        exact RDs.push (RD_dI' (pb _ _ hya)) (hr'.mono pb)
      · rcases Nat.lt_succ_iff_lt_or_eq.mp hj with q | rfl
        · exact hne j q
        · exact hg
end L1
end Mine
end
section
namespace Mine
theorem fillL1C : (fun (_ : OpenLaw) (_ : Params → Frag) => True) PySem.Challenge.rw_nq0156_01 Mine.hd.heap_1 := by
  k_fill; trivial
theorem perm_sortedN : ∀ {a b : List Nat}, a.Perm b → a.Pairwise (· ≤ ·) → b.Pairwise (· ≤ ·) → a = b
  | [], b, h, _, _ => by rw [List.nil_perm.mp h]
  | x :: a, [], h, _, _ => by cases List.perm_nil.mp h
  | x :: a, y :: b, h, ha, hb => by
    have e : x = y := by
      rw [List.pairwise_cons] at ha hb
      have h1 : x ∈ y :: b := h.mem_iff.mp (.head _)
      have h2 : y ∈ x :: a := h.mem_iff.mpr (.head _)
      rcases List.mem_cons.mp h1 with q | q
      · exact q
      · rcases List.mem_cons.mp h2 with r | r
        · exact r.symm
        · exact Nat.le_antisymm (ha.1 y r) (hb.1 x q)
    subst e
    rw [List.pairwise_cons] at ha hb
    rw [perm_sortedN (List.Perm.cons_inv h) ha.2 hb.2]
theorem map_range_get {α : Type} {d : α} {xs : List α} {n : Nat} (h : xs.length = n) : xs = (List.range n).map fun i => xs[i]?.getD d := by
  refine List.ext_getElem? fun i => ?_
  rw [List.getElem?_map]
  by_cases q : i < n
  · rw [List.getElem?_range q, Option.map_some, List.getElem?_eq_getElem (by omega)]; rfl
  · rw [List.getElem?_eq_none (by omega), List.getElem?_eq_none (by simp; omega)]; rfl
namespace L1
noncomputable def mkOf (M : List Nat) (x : Nat) : Nat := M[x]?.getD 0
noncomputable def rowF (N : List (List Nat)) (M : List Nat) (i : Nat) : List Nat := (List.range 9).filter fun x => ((nd N i).map (mkOf M)).contains x
noncomputable def firstOf (N : List (List Nat)) (M : List Nat) (i : Nat) : Nat := (List.range 9).findIdx fun j => decide (rowF N M j = rowF N M i)
noncomputable def stepM (N : List (List Nat)) (M : List Nat) : List Nat := (List.range 9).map (firstOf N M)
noncomputable def marksK (N : List (List Nat)) : Nat → List Nat
  | 0 => List.replicate 9 0
  | k + 1 => stepM N (marksK N k)
theorem firstOf_lt {N : List (List Nat)} {M : List Nat} {i : Nat} (hi : i < 9) : firstOf N M i < 9 := by
  have := List.findIdx_lt_length_of_exists (p := fun j => decide (rowF N M j = rowF N M i)) (xs := List.range 9) ⟨i, List.mem_range.mpr hi, by simp⟩
  simpa [firstOf] using this
theorem firstOf_is {N : List (List Nat)} {M : List Nat} {i : Nat} (hi : i < 9) : rowF N M (firstOf N M i) = rowF N M i := by
  have h : firstOf N M i < (List.range 9).length := by rw [List.length_range]; exact firstOf_lt hi
  have := List.findIdx_getElem (w := h)
  have e : rowF N M ((List.range 9)[firstOf N M i]'h) = rowF N M i := of_decide_eq_true this
  rwa [List.getElem_range] at e
theorem firstOf_no {N : List (List Nat)} {M : List Nat} {i j : Nat} (hj : j < firstOf N M i) : rowF N M j ≠ rowF N M i := by
  have := List.not_of_lt_findIdx hj
  simpa using this
theorem marksK_len {N : List (List Nat)} : ∀ k, (marksK N k).length = 9
  | 0 => by simp [marksK]
  | k + 1 => by simp [marksK, stepM]
theorem marksK_lt {N : List (List Nat)} : ∀ k, ∀ x ∈ marksK N k, x < 9
  | 0, x, h => by simp [marksK] at h; omega
  | k + 1, x, h => by
    obtain ⟨i, hi, rfl⟩ := List.mem_map.mp h
    exact firstOf_lt (List.mem_range.mp hi)
theorem row_is {N : List (List Nat)} {M ks ns : List Nat} {i : Nat} (hM : ∀ x ∈ (nd N i).map (mkOf M), x < 9) (hn : ks.Nodup) (hk : ∀ x, x ∈ ks ↔ x ∈ (nd N i).map (mkOf M)) (hp : ns.Perm ks) (hs : ns.Pairwise (· ≤ ·)) : ns = rowF N M i := by
  refine perm_sortedN (hp.trans ?_) hs ?_
  · refine (List.perm_ext_iff_of_nodup hn (List.nodup_range.filter _)).mpr fun x => ?_
    rw [hk x, List.mem_filter, List.mem_range, List.contains_iff_mem]
    exact ⟨fun h => ⟨hM x h, h⟩, fun h => h.2⟩
  · exact ((List.pairwise_lt_range).filter _).imp fun h => Nat.le_of_lt h
/-- between the turns -/
inductive MarI (N : List (List Nat)) (σ : Led) (L pn : Addr) (i : Nat) (m' : Loc) (τ : Led) : Prop
  | mk (h1 : m' "members" = some (.ref pn)) (le : σ.le τ) (pm : Addr) (v : Option AV) (c1 : τ (L + 1) = some (.cell (some (.ref pm)))) (c2 : τ (L + 2) = some (.cell v)) (hm : τ pm = some (AI (marksK N i))) : MarI N σ L pn i m' τ
set_option maxRecDepth 100000 in
set_option maxHeartbeats 2000000 in
theorem lawMarks {c : Cx} {E : Value → Loc → Led → Prop} {m : Loc} {σ : Led} {Q : Value → Loc → Led → Prop} {pn : Addr} {N : List (List Nat)} (G : Good Mine.hd.heap_1 2 c) (hh : c.A.handled = none)
    (hN : RD σ (dII N) (.ref pn)) (h9 : N.length = 9) (hz : ∀ i, (nd N i).length ≤ 3) (hb : ∀ i, ∀ x ∈ nd N i, x < 9) (h : ∀ a σ', σ.le σ' → σ' a = some (AI (marksK N 9)) → Q (.ref a) m σ') : W c (call (.ref 185) [.ref pn]) Q E m σ := by
  have hsz : 1000000 ≤ sizeLine := by decide
  obtain ⟨pn', xs, e, hpn, hxl, _, hx⟩ := RD_dII hN
  cases e
  rw [h9] at hxl
  have hxs := map_range_get (d := AV.none) hxl
  refine W_fnC [("members", .ref pn)] G (by k_is) (by k_is) (by rfl) (by rfl) fun L hL G1 => ?_
  show W _ _ _ _ _ ((σ.set (L + 1) (.cell none)).set (L + 2) (.cell none))
  have n1 : σ (L + 1) = none := hL _ (Nat.le_add_right _ _)
  have n2 : σ (L + 2) = none := hL _ (Nat.le_add_right _ _)
  obtain ⟨hle, c1, c2⟩ := cells2 (o1 := .cell none) (o2 := .cell none) hL
  generalize ((σ.set (L + 1) (.cell none)).set (L + 2) (.cell none)) = σ₁ at hle c1 c2 ⊢
  refine W_execs_cons (W_Assign_Cell (by rfl) (W_BinOp (W_List (W_items_cons (W_constInt fun t => W_items_nil (W_newList fun l hl => W_constInt fun t => W_rep9 Led.set_self fun pm hpm => ⟨⟨none, Led.set_old (Led.set_old c1 hl) hpm⟩, ?_⟩))))))
  have hpm' := (Led.le_set (o := .list (List.map er [Value.int 0 t])) hl).none hpm
  refine W_shrink (σ' := (σ₁.set pm (.list (List.replicate 9 (.int 0)))).set (L + 1) (.cell (some (.ref pm)))) ((Led.le_set hl).set2.set2) ?_
  refine W_execs_cons (W_For_range G1.ok hh rfl (W_bcall G1 (by k_is) boot_range (W_arg1 (W_constInt fun t => W_range1 fun r hr => ?_))))
  refine ⟨r, 0, 9, 1, 9, _, MarI N σ L pn, rfl, Led.set_self, by decide, by decide, Led.le_set hr, ⟨by rfl, (hle.set (hle.none hpm')).set n1, pm, none, Led.set_self, (Led.set_ne (Ane (by decide))).trans (Led.set_old c2 hpm'), ?_⟩, fun i t m' τ hi hI => ?_, fun m' τ hI => ?_⟩
  · refine (Led.set_ne fun e => ?_).trans (Led.set_self.trans rfl)
    rw [e, c1] at hpm'; cases hpm'
  · obtain ⟨hm1, hle, pm, v, c1, c2, hm⟩ := hI
    refine W_assignName (W_storeLocal rfl ?_)
    -- rows = [..]
    refine W_execs_cons (W_Assign_Cell (by rfl) (W_ListComp (by rfl) (W_lr rfl (by exact hm1) ?_)))
    refine W_itLd (List.range 9) (fun i => xs[i]?.getD .none) (fun _ => true) (fun j => dI (rowF N (marksK N i) j)) (by exact hh) (by rw [← hxs]; exact hle _ _ hpn) (by decide) (fun C j v m'' τ₁ hj hv hle1 => ?_) fun ys τ' a hle' hrd ha => ?_
    · have hj9 := List.mem_range.mp hj
      obtain ⟨b, hb1, hb2⟩ := hx (List.getElem?_eq_getElem (h9.symm ▸ hj9 : j < N.length))
      rw [nd_get] at hb2
      rw [hb1] at hv
      rw [er_ref hv]
      refine W_assignName (W_storeLocal rfl (W_tests_nil ⟨rfl, ?_⟩))
      rw [if_pos rfl]
      have hbτ := hle1 _ _ (hle _ _ hb2)
      have hmτ := hle1 _ _ hm
      have c1τ := hle1 _ _ c1
      refine W_bcall G1.comp (by k_is) boot_sorted (W_arg1 (W_bcall G1.comp (by k_is) PyProof.Rows.Boot.«set» (W_arg1 (W_ListComp (by rfl) (W_lr rfl (by rfl) ?_)))))
      refine W_itL (nd N j) iv (fun _ => true) (fun x => iv (mkOf (marksK N i) x)) (by exact hh) hbτ (Nat.le_trans (hz j) (by decide)) (fun C' x v m₃ hx hv => ?_) fun l hl => ?_
      · obtain ⟨t, rfl⟩ := er_int hv
        refine W_assignName (W_storeLocal rfl (W_tests_nil ⟨rfl, ?_⟩))
        rw [if_pos rfl]
        have hx9 := hb j x hx
        refine W_Subscript (W_cr (by rfl) c1τ (W_li rfl (by rfl) fun t => W_itemI hmτ (by rw [marksK_len]; exact hx9) (by rw [marksK_len]; decide) fun t => ⟨?_, Led.le.refl _⟩))
        show AV.int _ = iv _
        unfold mkOf
        rw [List.getElem?_eq_getElem (by rw [marksK_len]; exact hx9)]; rfl
      · have e1 : (AO.list (((nd N j).filter fun _ => true).map fun x => iv (mkOf (marksK N i) x))) = AI ((nd N j).map (mkOf (marksK N i))) := by
          rw [List.filter_eq_self.mpr fun _ _ => rfl, AI, List.map_map]; rfl
        rw [e1]
        have hM : ∀ x ∈ (nd N j).map (mkOf (marksK N i)), x < 9 := fun x hx => by
          obtain ⟨y, hy, rfl⟩ := List.mem_map.mp hx
          unfold mkOf
          have : y < (marksK N i).length := by rw [marksK_len]; exact hb j y hy
          rw [List.getElem?_eq_getElem this]
          exact marksK_lt i _ (List.getElem_mem this)
        have hl3 : ((nd N j).map (mkOf (marksK N i))).length ≤ 3 := by rw [List.length_map]; exact hz j
        refine W_setOf (by exact hh) Led.set_self hM hl3 fun s ks hs hn hk => ?_
        refine W_sortedSet (by exact hh) Led.set_self (Nat.le_trans (List.Nodup.length_le_of_subset hn fun x hx => (hk x).mp hx) hl3) fun r ns hr hp hso => ⟨?_, (Led.le_set hl).trans ((Led.le_set hs).trans (Led.le_set hr))⟩
        rw [row_is hM hn hk hp hso]
        exact RD_dI' Led.set_self
    refine ⟨⟨v, Led.set_old (hle' _ _ c2) ha⟩, ?_⟩
    have hyl : ys.length = 9 := by rw [hrd.length, List.length_map, List.filter_eq_self.mpr fun _ _ => rfl, List.length_range]
    have hys := map_range_get (d := AV.none) hyl
    have hpa : a ≠ L + 2 := fun e => by rw [e, hle' _ _ c2] at ha; cases ha
    have lN := (Led.le_set (o := .list ys) ha).toN.setC (v := some (.ref a)) (Led.set_old (hle' _ _ c2) ha)
    have ga : ((τ'.set a (.list ys)).set (L + 2) (.cell (some (.ref a)))) a = some (.list ys) := (Led.set_ne hpa).trans Led.set_self
    have d1 : ((τ'.set a (.list ys)).set (L + 2) (.cell (some (.ref a)))) (L + 1) = some (.cell (some (.ref pm))) := (Led.set_ne (Ane (by decide))).trans (Led.set_old (hle' _ _ c1) ha)
    have d2 : ((τ'.set a (.list ys)).set (L + 2) (.cell (some (.ref a)))) (L + 2) = some (.cell (some (.ref a))) := Led.set_self
    have le2 : σ.le ((τ'.set a (.list ys)).set (L + 2) (.cell (some (.ref a)))) := ((hle.trans hle').trans (Led.le_set ha)).set n2
    have hrd2 := hrd.monoN lN
    show W _ _ _ _ _ ((τ'.set a (.list ys)).set (L + 2) (.cell (some (.ref a))))
    generalize ((τ'.set a (.list ys)).set (L + 2) (.cell (some (.ref a)))) = τ₂ at ga d1 d2 le2 hrd2 ⊢
    rw [List.filter_eq_self.mpr fun _ _ => rfl] at hrd2
    -- marks = [..]
    refine W_execs_cons (W_Assign_Cell (by rfl) (W_ListComp (by rfl) (W_cr (by rfl) d2 ?_)))
    have hR : Rds τ₂ ((List.range 9).map fun j => (dI (rowF N (marksK N i) j), ys[j]?.getD .none)) := fun q hq => by
      obtain ⟨j, hj, rfl⟩ := List.mem_map.mp hq
      have hj9 := List.mem_range.mp hj
      obtain ⟨y, hy, hr⟩ := hrd2.get (i := j) (d := dI (rowF N (marksK N i) j)) (by rw [List.getElem?_map, List.getElem?_range hj9]; rfl)
      refine ⟨?_, lay_dI _, by rw [depth_dI]; decide⟩
      show RD τ₂ _ (ys[j]?.getD .none)
      rw [hy]; exact hr
    refine W_itL (List.range 9) (fun j => ys[j]?.getD .none) (fun _ => true) (fun j => iv (firstOf N (marksK N i) j)) (by exact hh) (by rw [← hys]; exact ga) (by decide) (fun C j v m'' hj hv => ?_) fun b hb => ⟨⟨_, Led.set_old d1 hb⟩, ?_⟩
    · have hj9 := List.mem_range.mp hj
      have hRj := hR (dI (rowF N (marksK N i) j), ys[j]?.getD .none) (List.mem_map.mpr ⟨j, hj, rfl⟩)
      refine W_assignName (W_storeLocal rfl (W_tests_nil ⟨rfl, ?_⟩))
      rw [if_pos rfl]
      refine W_CallMethod (W_cr (by rfl) d2 ?_)
      refine W_getMethod_list PySem.F.slot_list_index PySem.F.type_list_index ga ?_
      refine W_callWithB (by intro a h; cases h) (W_arg1 (W_lv rfl (by rfl) fun u hu => ?_))
      have hfl : firstOf N (marksK N i) j < 9 := firstOf_lt hj9
      refine W_index (ys := (List.range 9).map fun j => (dI (rowF N (marksK N i) j), ys[j]?.getD .none)) (d := dI (rowF N (marksK N i) j)) (j := firstOf N (marksK N i) j) (G1.comp.unit (k := 60) (by decide)) ?_ hR ?_ (lay_dI _) (by rw [depth_dI]; decide) (by rw [List.length_map, List.length_range]; decide) (by rw [List.length_map, List.length_range]; exact hfl) ?_ (fun i' hi' hlt => ?_) fun t => ⟨rfl, Led.le.refl _⟩
      · rw [List.map_map]
        exact ga.trans (congrArg (fun l => some (AO.list l)) hys)
      · rw [hu, hv]; exact hRj.1
      · rw [List.getElem_map, List.getElem_range]
        show PyData.eqv (dI _) (dI _) = true
        rw [eqv_dI, firstOf_is hj9]; simp
      · rw [List.getElem_map, List.getElem_range]
        show PyData.eqv (dI _) (dI _) = false
        rw [eqv_dI]; exact decide_eq_false (firstOf_no hlt)
    · have hbL : b ≠ L + 1 := fun e => by rw [e, d1] at hb; cases hb
      refine W_execs_nil ⟨by exact hm1, (le2.set (le2.none hb)).set n1, b, _, Led.set_self, (Led.set_ne (Ane (by decide))).trans (Led.set_old d2 hb), (Led.set_ne hbL).trans (Led.set_self.trans ?_)⟩
      rw [List.filter_eq_self.mpr fun _ _ => rfl]
      show _ = some (AO.list ((stepM N (marksK N i)).map iv))
      unfold stepM
      rw [List.map_map]; rfl
  · obtain ⟨hm1, hle, pm, v, c1, c2, hm⟩ := hI
    exact W_execs_cons (W_Return (W_cr (by rfl) c1 (h pm τ hle hm)))
end L1
end Mine
end
section
namespace Mine
theorem fillL1D : (fun (_ : OpenLaw) (_ : Params → Frag) => True) PySem.Challenge.rw_nq0156_01 Mine.hd.heap_1 := by
  k_fill; trivial
theorem SSt.dones {nodes : List AV} {st : Steps} {O : List PKey} : ∀ (ks D : List PKey) (R : List (PKey × AV)), SSt nodes st D O R → ks.Nodup → (∀ k ∈ ks, k ∈ O ∧ k ∉ D) →
    ∃ R', SSt nodes st (ks.reverse ++ D) O R' ∧ doneP ks (psD nodes st D O, R.map (·.2)) = some (psD nodes st (ks.reverse ++ D) O, R'.map (·.2)) ∧ ∀ q ∈ R', q ∈ R ∨ ∃ D' k, q ∈ newly st D' O k
  | [], D, R, S, _, _ => ⟨R, S, rfl, fun q hq => .inl hq⟩
  | k :: ks, D, R, S, hn, hk => by
    obtain ⟨h1, h2⟩ := hk k (.head _)
    obtain ⟨S1, h3, h4⟩ := S.done h1 h2
    rw [List.nodup_cons] at hn
    obtain ⟨R', S', h5, h6⟩ := SSt.dones ks (k :: D) _ S1 hn.2 fun k' hk' => ⟨(hk k' (.tail _ hk')).1, fun z => by
      rcases List.mem_cons.mp z with e | e
      · rw [e] at hk'; exact hn.1 hk'
      · exact (hk k' (.tail _ hk')).2 e⟩
    have er : (k :: ks).reverse ++ D = ks.reverse ++ k :: D := by rw [List.reverse_cons, List.append_assoc]; rfl
    rw [er]
    refine ⟨R', S', ?_, fun q hq => ?_⟩
    · show (if npOf k (psD nodes st D O) = -1 then doneP ks (doneStep (psD nodes st D O, R.map (·.2)) k) else none) = _
      rw [if_pos h3, h4]; exact h5
    · rcases h6 q hq with z | z
      · rcases List.mem_append.mp z with w | w
        · exact .inl w
        · exact .inr ⟨D, k, w⟩
      · exact .inr z
theorem Dis.setR {σ φ : Led} {a : Addr} {o : AO} (h : Dis σ φ) (ha : σ a = none) : Dis σ (φ.set a o) := fun b => by
  by_cases q : b = a
  · subst q; exact .inl ha
  · rw [Led.set_ne q]; exact h b
theorem Dis.none {σ φ : Led} {a : Addr} {o : AO} (h : Dis σ φ) (ha : φ a = some o) : σ a = Option.none := (h a).resolve_right (by rw [ha]; intro q; cases q)
theorem Dis.le {σ φ φ' : Led} (h : Dis σ φ) (hle : φ'.le φ) : Dis σ φ' := fun b => (h b).imp id fun e => hle.none e
theorem un_le_un {σ φ φ' : Led} (hle : φ'.le φ) : (σ.un φ').le (σ.un φ) := fun b o e => by
  cases q : σ b with
  | some o' => rw [Led.un_left q] at e ⊢; exact e
  | none => rw [Led.un_right q] at e ⊢; exact hle b o e
theorem nodup_of_map {α β : Type} {f : α → β} {l : List α} (h : (l.map f).Nodup) : l.Nodup := (List.pairwise_map.mp h).imp fun {a b} hne (e : a = b) => hne (congrArg f e)
/-- figures, each as a number -/
noncomputable def IsIv (R : List (PKey × AV)) : Prop := ∀ q ∈ R, ∃ n : Nat, q = (.num n, iv n)
theorem IsIv.names : ∀ {R : List (PKey × AV)}, IsIv R → ∃ RN : List Nat, R = RN.map fun (n : Nat) => (PKey.num n, iv n)
  | [], _ => ⟨[], rfl⟩
  | q :: R, h => by
    obtain ⟨n, e⟩ := h q (.head _)
    obtain ⟨RN, e'⟩ := IsIv.names (R := R) fun q hq => h q (.tail _ hq)
    exact ⟨n :: RN, by rw [e, e', List.map_cons]⟩
theorem addsP_snoc (adds : List Add) (a : Add) : addsP (adds ++ [a]) = addP (kOf a.1) a.1 (a.2.map kp) (addsP adds) := by unfold addsP; rw [List.foldl_append]; rfl
theorem iv_key (n : Nat) : (iv n).key = some (.num n) := rfl
theorem kOf_iv (n : Nat) : kOf (iv n) = .num n := rfl
namespace L1
noncomputable def addN (N : List (List Nat)) (i : Nat) : Add := (iv i, (nd N i).map iv)
noncomputable def addsN (N : List (List Nat)) (k : Nat) : List Add := (List.range k).map fun j => addN N (8 - j)
theorem addsN_succ (N : List (List Nat)) (k : Nat) : addsN N (k + 1) = addsN N k ++ [addN N (8 - k)] := by unfold addsN; rw [List.range_succ, List.map_append]; rfl
theorem addN_ok (N : List (List Nat)) (i : Nat) : (addN N i).ok := ⟨rfl, fun u hu => by obtain ⟨n, _, rfl⟩ := List.mem_map.mp hu; rfl⟩
theorem addsN_ok (N : List (List Nat)) (k : Nat) : ∀ a ∈ addsN N k, a.ok := fun a ha => by
  obtain ⟨j, _, rfl⟩ := List.mem_map.mp ha
  exact addN_ok N _
theorem suB_addsN {N : List (List Nat)} (hz : ∀ i, (nd N i).length ≤ 3) : ∀ k, suB (3 * k) (addsP (addsN N k))
  | 0 => fun n hn => (nomatch hn)
  | k + 1 => by
    rw [addsN_succ, addsP_snoc]
    refine suB_le (suB_add (suB_addsN hz k)) ?_
    have := hz (8 - k)
    show 3 * k + (((nd N (8 - k)).map iv).map kp).length ≤ _
    rw [List.length_map, List.length_map]; omega
theorem len_nAdd (nodes : List AV) (v : AV) : (nAdd nodes v).length ≤ nodes.length + 1 := by unfold nAdd; split <;> simp
theorem len_foldl_nAdd : ∀ (l nodes : List AV), (l.foldl nAdd nodes).length ≤ nodes.length + l.length
  | [], nodes => by simp
  | v :: l, nodes => by
    have := len_foldl_nAdd l (nAdd nodes v)
    have := len_nAdd nodes v
    rw [List.foldl_cons, List.length_cons]; omega
theorem len_addsN {N : List (List Nat)} (hz : ∀ i, (nd N i).length ≤ 3) (k : Nat) : (addsP (addsN N k)).length ≤ 4 * k := by
  rw [(addsP_mk _ (addsN_ok N k)).1]
  unfold mkPS
  rw [List.length_map]
  unfold nodesOf
  refine Nat.le_trans (len_foldl_nAdd _ _) ?_
  rw [List.length_nil, Nat.zero_add]
  induction k with
  | zero => simp [addsN, namingOf]
  | succ k ih =>
    rw [addsN_succ]
    unfold namingOf at ih ⊢
    rw [List.flatMap_append, List.length_append]
    have := hz (8 - k)
    have e : (List.flatMap (fun a : Add => a.1 :: a.2) [addN N (8 - k)]).length = (nd N (8 - k)).length + 1 := by simp [addN]
    omega
noncomputable abbrev stN (N : List (List Nat)) : Steps := stepsOf (addsN N 9)
noncomputable abbrev ndsN (N : List (List Nat)) : List AV := nodesOf (addsN N 9)
/-- where the prepared sorter stands -/
noncomputable abbrev R0 (N : List (List Nat)) : List (PKey × AV) := (((ndsN N).filter fun v => npF (stN N) (kOf v) == 0).map kp)
theorem mem_stN {N : List (List Nat)} (h9 : N.length = 9) {s : PKey × AV} : s ∈ stN N ↔ ∃ i x, i < 9 ∧ x ∈ nd N i ∧ s = (.num x, iv i) := by
  unfold stN stepsOf addsN
  rw [List.mem_flatMap]
  constructor
  · rintro ⟨a, ha, hs⟩
    obtain ⟨j, hj, rfl⟩ := List.mem_map.mp ha
    have hj9 := List.mem_range.mp hj
    obtain ⟨u, hu, rfl⟩ := List.mem_map.mp hs
    obtain ⟨x, hx, rfl⟩ := List.mem_map.mp hu
    exact ⟨8 - j, x, by omega, hx, rfl⟩
  · rintro ⟨i, x, hi, hx, rfl⟩
    refine ⟨addN N i, List.mem_map.mpr ⟨8 - i, List.mem_range.mpr (by omega), by congr 1; omega⟩, ?_⟩
    exact List.mem_map.mpr ⟨iv x, List.mem_map.mpr ⟨x, hx, rfl⟩, rfl⟩
theorem hasK_foldl : ∀ (l nodes : List AV) (k : PKey), hasK (l.foldl nAdd nodes) k = (hasK nodes k || l.any fun v => decide (kOf v = k))
  | [], nodes, k => by simp
  | v :: l, nodes, k => by
    rw [List.foldl_cons, hasK_foldl l, hasK_nAdd, List.any_cons, Bool.or_assoc]
theorem hasK_ndsN {N : List (List Nat)} (hb : ∀ i, ∀ x ∈ nd N i, x < 9) {k : PKey} : hasK (ndsN N) k = true ↔ ∃ i : Nat, i < 9 ∧ k = .num i := by
  unfold ndsN nodesOf
  rw [hasK_foldl]
  have : hasK [] k = false := rfl
  rw [this, Bool.false_or, List.any_eq_true]
  constructor
  · rintro ⟨v, hv, q⟩
    obtain ⟨a, ha, hv⟩ := List.mem_flatMap.mp hv
    obtain ⟨j, hj, rfl⟩ := List.mem_map.mp ha
    have hj9 := List.mem_range.mp hj
    have q' := of_decide_eq_true q
    rcases List.mem_cons.mp hv with z | z
    · subst z; exact ⟨8 - j, by omega, q'.symm⟩
    · obtain ⟨x, hx, rfl⟩ := List.mem_map.mp z
      exact ⟨x, hb _ x hx, q'.symm⟩
  · rintro ⟨i, hi, rfl⟩
    refine ⟨iv i, List.mem_flatMap.mpr ⟨addN N i, List.mem_map.mpr ⟨8 - i, List.mem_range.mpr (by omega), by congr 1; omega⟩, .head _⟩, by simp [kOf_iv]⟩
theorem startN {N : List (List Nat)} (h9 : N.length = 9) (hb : ∀ i, ∀ x ∈ nd N i, x < 9) : SSt (ndsN N) (stN N) [] [] (R0 N) := by
  refine SSt.start (addsP_mk _ (addsN_ok N 9)).2.1 fun s hs => ?_
  obtain ⟨i, x, hi, hx, rfl⟩ := (mem_stN h9).mp hs
  exact ⟨(hasK_ndsN hb).mpr ⟨x, hb i x hx, rfl⟩, (hasK_ndsN hb).mpr ⟨i, hi, rfl⟩, rfl⟩
theorem psN {N : List (List Nat)} : addsP (addsN N 9) = psD (ndsN N) (stN N) [] [] := by
  rw [(addsP_mk _ (addsN_ok N 9)).1]; unfold psD; rw [npD_nil]
theorem readyN {N : List (List Nat)} : readyOf (psD (ndsN N) (stN N) [] []) = (R0 N).map (·.2) := by
  unfold psD readyOf; rw [npD_nil]; exact readyOf_mk
theorem closed_psD {nodes : List AV} {st : Steps} {D O : List PKey} {R : List (PKey × AV)} (S : SSt nodes st D O R) : Closed (psD nodes st D O) := fun n hn v hv => by
  obtain ⟨u, hu, rfl⟩ := List.mem_map.mp hn
  obtain ⟨s, hs, rfl⟩ := List.mem_map.mp hv
  have hs' := (List.mem_filter.mp hs).1
  obtain ⟨_, h2, h3⟩ := S.stn s hs'
  refine ⟨kOf s.2, h3, ?_⟩
  obtain ⟨w, hw, e⟩ := List.mem_map.mp (hasK_iff.mp h2)
  exact ⟨⟨w, npD st D O (kOf w), suF st (kOf w)⟩, List.mem_map.mpr ⟨w, hw, rfl⟩, by show w.key = _; rw [S.nds.has w hw, e]⟩
theorem suB_psD {N : List (List Nat)} (hz : ∀ i, (nd N i).length ≤ 3) (D O : List PKey) : suB 1000 (psD (ndsN N) (stN N) D O) := fun n hn => by
  have := suB_addsN hz 9
  rw [psN] at this
  obtain ⟨u, hu, rfl⟩ := List.mem_map.mp hn
  have := this ⟨u, npD (stN N) [] [] (kOf u), suF (stN N) (kOf u)⟩ (List.mem_map.mpr ⟨u, hu, rfl⟩)
  exact Nat.le_trans this (by decide)
/-- the ring's word -/
noncomputable def RingW (N : List (List Nat)) (b : Bool) : Prop :=
  (b = false → RunAll (fun k => suOf k (psD (ndsN N) (stN N) [] [])) ((psD (ndsN N) (stN N) [] []).map (·.node)) (fun _ => false) none) ∧
  (b = true → ∃ l, RunAll (fun k => suOf k (psD (ndsN N) (stN N) [] [])) ((psD (ndsN N) (stN N) [] []).map (·.node)) (fun _ => false) (some l))
theorem isIv_R0 {N : List (List Nat)} : IsIv (R0 N) := fun q hq => by
  obtain ⟨v, hv, rfl⟩ := List.mem_map.mp hq
  have hv' := (List.mem_filter.mp hv).1
  have : ∀ (l nodes : List AV) (v : AV), v ∈ l.foldl nAdd nodes → v ∈ nodes ∨ v ∈ l := by
    intro l
    induction l with
    | nil => intro nodes v h; exact .inl h
    | cons u l ih =>
      intro nodes v h
      rcases ih _ v h with z | z
      · unfold nAdd at z
        split at z
        · exact .inl z
        · rcases List.mem_append.mp z with w | w
          · exact .inl w
          · rw [List.mem_singleton.mp w]; exact .inr (.head _)
      · exact .inr (.tail _ z)
  rcases this _ _ v hv' with z | z
  · cases z
  · obtain ⟨a, ha, hv⟩ := List.mem_flatMap.mp z
    obtain ⟨j, hj, rfl⟩ := List.mem_map.mp ha
    rcases List.mem_cons.mp hv with w | w
    · subst w; exact ⟨8 - j, rfl⟩
    · obtain ⟨x, _, rfl⟩ := List.mem_map.mp w; exact ⟨x, rfl⟩
theorem isIv_newly {N : List (List Nat)} (h9 : N.length = 9) {D O : List PKey} {k : PKey} : IsIv (newly (stN N) D O k) := fun q hq => by
  obtain ⟨v, hv, rfl⟩ := List.mem_map.mp (lastsBy_sub hq)
  obtain ⟨s, hs, rfl⟩ := List.mem_map.mp hv
  obtain ⟨i, x, _, _, rfl⟩ := (mem_stN h9).mp (List.mem_filter.mp hs).1
  exact ⟨i, rfl⟩
noncomputable abbrev nk (l : List Nat) : List PKey := l.map fun (n : Nat) => PKey.num n
theorem mem_nk {l : List Nat} {x : Nat} : PKey.num x ∈ nk l ↔ x ∈ l := by
  rw [List.mem_map]
  constructor
  · rintro ⟨n, hn, e⟩; cases e; exact hn
  · exact fun h => ⟨x, h, rfl⟩
end L1
end Mine
end
section
namespace Mine
theorem fillL1E : (fun (_ : OpenLaw) (_ : Params → Frag) => True) PySem.Challenge.rw_nq0156_01 Mine.hd.heap_1 := by
  k_fill; trivial
noncomputable def dT (g : List Nat) : PyData := .tuple (g.map fun (n : Nat) => .int n)
theorem RD_dT {σ : Led} {g : List Nat} {v : AV} : RD σ (dT g) v ↔ ∃ a, v = .ref a ∧ σ a = some (.tuple (g.map iv)) := by
  unfold dT RD
  constructor
  · rintro ⟨a, xs, h1, h2, h3⟩
    rw [RDs_iv.mp h3] at h2
    exact ⟨a, h1, h2⟩
  · rintro ⟨a, h1, h2⟩
    exact ⟨a, _, h1, h2, RDs_iv.mpr rfl⟩
theorem Led.del_ne' {σ : Led} {a b : Addr} (h : b ≠ a) : σ.del a b = σ b := by unfold Led.del; rw [if_neg h]
/-- a tuple out of the sorter's part -/
theorem Srt.pull {σs φ : Led} {x a : Addr} {ps : List PN} {rd : Option (List AV)} {p f : Int} {xs : List AV} (S : Srt σs x ps rd p f) (hd : Dis σs φ) (ha : σs a = some (.tuple xs)) :
    ∃ ρ, Srt ρ x ps rd p f ∧ Dis ρ (φ.set a (.tuple xs)) ∧ σs.un φ = ρ.un (φ.set a (.tuple xs)) ∧ φ a = none := by
  have fa : φ a = none := (hd a).resolve_left (by rw [ha]; intro q; cases q)
  obtain ⟨dx, d, ep, ns, r, S, e⟩ := S
  have h : ∀ b o, (∀ ys, o ≠ .tuple ys) → σs b = some o → σs.del a b = some o := fun b o q e => (Led.del_ne' fun z => by rw [z, ha] at e; cases e; exact q xs rfl).trans e
  refine ⟨σs.del a, ⟨dx, d, ep, ns, r, ⟨h _ _ (by intro y q; cases q) S.hx, h _ _ (by intro y q; cases q) S.hdx, h _ _ (by intro y q; cases q) S.hd, fun n hn => ⟨h _ _ (by intro y q; cases q) (S.hn n hn).1, h _ _ (by intro y q; cases q) (S.hn n hn).2.1, h _ _ (by intro y q; cases q) (S.hn n hn).2.2⟩, fun r l e => ⟨h _ _ (by intro y q; cases q) (S.hr r l e).1, (S.hr r l e).2⟩, S.as, S.ss, S.ks, S.kn⟩, e⟩, fun b => ?_, ?_, fa⟩
  · by_cases q : b = a
    · subst q; left; unfold Led.del; rw [if_pos rfl]
    · rw [Led.del_ne' q, Led.set_ne q]; exact hd b
  · funext b
    by_cases q : b = a
    · subst q
      rw [Led.un_left ha, Led.un_right (by unfold Led.del; rw [if_pos rfl])]; exact Led.set_self.symm
    · cases z : σs b with
      | some o => rw [Led.un_left z, Led.un_left ((Led.del_ne' q).trans z)]
      | none => rw [Led.un_right z, Led.un_right ((Led.del_ne' q).trans z), Led.set_ne q]
namespace L1
theorem leftK_sub {N : List (List Nat)} : ∀ k, (leftK N k).Sublist (List.range 9)
  | 0 => List.Sublist.refl _
  | k + 1 => List.filter_sublist.trans (leftK_sub k)
/-- behind the try -/
inductive TryP (N : List (List Nat)) (σ : Led) (x : Addr) (m' : Loc) (τ : Led) : Prop
  | mk (h2 : m' "sorter" = some (.ref x)) (b : Bool) (h3 : m' "ring" = some (.bool b)) (σs : Led) (e : τ = σs.un σ) (hd : Dis σs σ) (S : Srt σs x (psD (ndsN N) (stN N) [] []) (some ((R0 N).map (·.2))) 0 0) (hr : RingW N b) : TryP N σ x m' τ
/-- between the adds -/
inductive AddI (N : List (List Nat)) (σ : Led) (pn x : Addr) (k : Nat) (m' : Loc) (τ : Led) : Prop
  | mk (h1 : m' "members" = some (.ref pn)) (h2 : m' "sorter" = some (.ref x)) (σs : Led) (e : τ = σs.un σ) (hd : Dis σs σ) (S : Srt σs x (addsP (addsN N k)) none 0 0) : AddI N σ pn x k m' τ
/-- between the rounds -/
inductive GroW (N : List (List Nat)) (σ : Led) (x pg : Addr) (ring : Bool) (n : Nat) (m' : Loc) (τ : Led) : Prop
  | mk (h1 : m' "sorter" = some (.ref x)) (h2 : m' "ring" = some (.bool ring)) (h3 : m' "groups" = some (.ref pg)) (σs φ ψ : Led) (gs : List (List Nat)) (ys : List AV) (D O : List PKey) (R : List (PKey × AV)) (e : τ = σs.un φ) (hd : Dis σs φ)
    (U : Und ψ φ [pg]) (le : σ.le ψ) (hg : φ pg = some (.list ys)) (hr : RDs ψ (gs.map dT) ys) (SS : SSt (ndsN N) (stN N) D O R) (hiv : IsIv R) (S : Srt σs x (psD (ndsN N) (stN N) D O) (some (R.map (·.2))) O.length D.length)
    (hDO : D.length = O.length) (hOn : O.Nodup) (hOD : ∀ k ∈ O, k ∈ D) (hl : ∀ y, y < 9 → (y ∈ leftK N gs.length ↔ PKey.num y ∉ O)) (hgs : ∀ k g, gs[k]? = some g → g.Perm (grpK N k) ∧ g ≠ []) (hgl : gs.length ≤ O.length) (hn : n = 9 - O.length) : GroW N σ x pg ring n m' τ
set_option maxRecDepth 100000 in
set_option maxHeartbeats 4000000 in
theorem lawGroups {c : Cx} {E : Value → Loc → Led → Prop} {m : Loc} {σ : Led} {Q : Value → Loc → Led → Prop} {pn : Addr} {N : List (List Nat)} (G : Good Mine.hd.heap_1 12 c) (hh : c.A.handled = none)
    (hN : RD σ (dII N) (.ref pn)) (h9 : N.length = 9) (hz : ∀ i, (nd N i).length ≤ 3) (hb : ∀ i, ∀ x ∈ nd N i, x < 9)
    (h : ∀ a pg φ (gs : List (List Nat)) ring, σ.le φ → φ a = some (.tuple [.ref pg, .bool ring]) → RD φ (.list (gs.map dT)) (.ref pg) → (∀ k g, gs[k]? = some g → g.Perm (grpK N k) ∧ g ≠ []) → grpK N gs.length = [] → RingW N ring → Q (.ref a) m φ) : W c (call (.ref 175) [.ref pn]) Q E m σ := by
  refine W_keep ?_
  refine W_fn [("members", .ref pn)] G (by k_is) (by k_is) (by rfl) (by rfl) fun L hL G1 => ?_
  refine W_execs_cons (W_Assign_Name (W_gcall0 G1 (by k_is) (by k_is) (newSorter (φ := σ) (G1.le (by decide)) fun x σs hd S => W_storeLocal rfl ?_)))
  -- the adds
  refine W_execs_cons (W_For_range G1.ok hh rfl (W_bcall G1 (by k_is) boot_range (W_arg3 (W_constInt fun t => W_UnaryOp (W_constInt fun t => W_neg fun t => W_UnaryOp (W_constInt fun t => W_neg fun t => W_range3 (by decide) (noPy (by decide)) fun r hr => ?_))))))
  refine ⟨r, 8, -1, -1, 9, σs.un σ, AddI N σ pn x, rfl, Led.set_self, by decide, by decide, Led.le_set hr, ⟨by rfl, by rfl, σs, rfl, hd, S⟩, fun k t m' τ hk hI => ?_, fun m' τ hI => ?_⟩
  · obtain ⟨hm1, hm2, σs, rfl, hd, S⟩ := hI
    rw [show (8 : Int) + -1 * (k : Nat) = ((8 - k : Nat) : Int) by omega]
    refine W_assignName (W_storeLocal rfl ?_)
    refine W_execs_cons (W_Expr (W_CallStar (W_lr rfl (by exact hm2) ?_)))
    obtain ⟨dx, d, ep, ns, r', SC0, hps⟩ := id S
    refine W_getBound G1 (Led.un_left SC0.hx) (Led.un_left SC0.hdx) (by rfl) (by k_is) (by k_is) (by k_is) (by k_is) (by k_is) (by k_is) (by decide +kernel) fun q hq => ?_
    have hq1 := Led.un_none hq
    rw [show (σs.un σ).set q (.exact (methodObj (.ref 109) (.ref x))) = σs.un (σ.set q (.exact (methodObj (.ref 109) (.ref x)))) from (Led.un_set_right hq1.1).symm]
    have hd' : Dis σs (σ.set q (.exact (methodObj (.ref 109) (.ref x)))) := hd.setR hq1.1
    have hleσ : σ.le (σs.un (σ.set q (.exact (methodObj (.ref 109) (.ref x))))) := (Led.le_set hq1.2).trans (Led.le_un_right hd')
    have hqq : (σs.un (σ.set q (.exact (methodObj (.ref 109) (.ref x))))) q = some (.exact (methodObj (.ref 109) (.ref x))) := Led.le_un_right hd' _ _ Led.set_self
    refine W_callWithM (f := 109) (self := .ref x) G1 (by k_is) (by rfl) (W_args (W_items_cons (W_li rfl (by rfl) fun t1 => W_items_star (W_Subscript (W_lr rfl (by exact hm1) (W_li rfl (by rfl) fun t => ?_))))))
    refine W_itemII (hN.mono hleσ) (by omega) (by rw [h9]; decide) fun b hb' => ?_
    rw [nd_get] at hb'
    have hzk := hz (8 - k)
    refine ⟨b, (nd N (8 - k)).map iv, rfl, .inl hb', by rw [List.length_map]; exact Nat.le_trans hzk (by decide), fun vs hvs => W_items_nil ⟨hqq, W_callBound hqq ?_⟩⟩
    refine sAdd (ps := addsP (addsN N k)) (ks := ((nd N (8 - k)).map iv).map kp) (k := .num ((8 - k : Nat) : Int)) (G1.le (by decide)) hh hd' S (by rfl) (Nat.le_trans (len_addsN hz k) (by omega)) ?_ ?_ ?_ (suB_le (suB_addsN hz k) (by omega)) fun σs' hd2 S2 => ?_
    · rw [List.append_nil, hvs, List.map_map]
      exact (List.map_id' _).symm ▸ rfl
    · intro q hq
      obtain ⟨u, hu, rfl⟩ := List.mem_map.mp hq
      obtain ⟨x', _, rfl⟩ := List.mem_map.mp hu
      rfl
    · rw [List.length_map, List.length_map]; omega
    · refine W_shrink (σ' := σs'.un σ) (un_le_un (Led.le_set hq1.2)) ?_
      refine W_execs_nil ⟨by exact hm1, by exact hm2, σs', rfl, hd2.le (Led.le_set hq1.2), ?_⟩
      rw [addsN_succ, addsP_snoc]; exact S2
  obtain ⟨hm1, hm2, σs, rfl, hd, S⟩ := hI
  -- prepare
  refine W_execs_cons (W_mono_ne (Q := fun fl m' τ => fl = .next ∧ TryP N σ x m' τ) ?_ ?_)
  · rw [psN] at S
    have St := startN h9 hb
    obtain ⟨dx, d, ep, ns, r', SC0, hps⟩ := id S
    refine W_Try G1.ok rfl (W_execs_cons (W_Expr (W_CallMethod (W_lr rfl (by exact hm2) ?_))))
    refine W_getMethod G1 (Led.un_left SC0.hx) (Led.un_left SC0.hdx) (by rfl) (by k_is) (by k_is) (by k_is) ?_
    refine W_callWithK0 G1.X (by k_is) ?_
    refine sPrepare (G1.le (by decide)) hh hd S ?_ (closed_psD St) (suB_psD hz _ _) (fun hr σs' hd' S' => ?_) (fun l hr σs' hd' S' => ?_)
    · rw [← psN]; exact Nat.le_trans (len_addsN hz 9) (by decide)
    · rw [readyN] at S'
      exact W_execs_cons (W_Assign_Name (W_constBool (W_storeLocal rfl (W_execs_nil ⟨rfl, by exact hm2, false, by rfl, σs', rfl, hd', S', fun _ => hr, fun e => by cases e⟩))))
    · rw [readyN] at S'
      intro e
      refine W_name (W_loadGlobal (W_global (G1.mark _) (by k_is) ⟨meets_own (x := "CycleError") (bm := [.type "ValueError", .type "Exception", .type "BaseException", .type "object"]) (newId := "ValueError.__new__") G1 (by k_is) (by k_exc) (by decide), ?_⟩))
      exact W_execs_cons (W_Assign_Name (W_constBool (W_storeLocal rfl (W_execs_nil ⟨rfl, by exact hm2, true, by rfl, σs', rfl, hd', S', (fun e => by cases e), fun _ => ⟨l, hr⟩⟩))))
  clear hm1 hm2 S hd
  rintro fl m' τ ⟨rfl, ⟨hm2, ring, hm3, σs, rfl, hd, S, hring⟩⟩
  show W _ _ _ _ _ _
  have hsz : 1000000 ≤ sizeLine := by decide
  -- groups = []
  refine W_execs_cons (W_Assign_Name (W_List (W_items_nil (W_newList fun pg hpg => W_storeLocal rfl ?_))))
  have hpg1 := Led.un_none hpg
  rw [show (σs.un σ).set pg (.list (List.map er [])) = σs.un (σ.set pg (.list [])) from (Led.un_set_right hpg1.1).symm]
  refine W_execs_cons (W_While G1.ok rfl (GroW N σ x pg ring) 9 ⟨by exact hm2, by exact hm3, by rfl, σs, σ.set pg (.list []), σ, [], [], [], [], R0 N, rfl, hd.setR hpg1.1, (Und.refl σ).add hpg1.2, Led.le.refl _, Led.set_self, by exact rfl, startN h9 hb, isIv_R0, by exact S, rfl, List.nodup_nil, fun k hk => (nomatch hk), fun y hy => by simp [leftK]; exact hy, fun k g e => by simp at e, Nat.le_refl _, rfl⟩ ?_)
  clear hm2 hm3 S hd hpg
  rintro n m' τ ⟨hm1, hm2, hm3, σs, φ, ψ, gs, ys, D, O, R, rfl, hd, U, le, hg, hr, SS, hiv, S, hDO, hOn, hOD, hl, hgs, hgl, rfl⟩
  obtain ⟨RN, rfl⟩ := hiv.names
  have eR : (RN.map fun (n : Nat) => (PKey.num n, iv n)).map (·.1) = nk RN := by rw [List.map_map]; rfl
  have eR2 : (RN.map fun (n : Nat) => (PKey.num n, iv n)).map (·.2) = RN.map iv := by rw [List.map_map]; rfl
  have hrdy := SS.rdy
  have hrnd := SS.rnd
  rw [eR] at hrdy hrnd
  obtain ⟨SS2, hout⟩ := SS.out
  rw [eR] at SS2 hout
  have hO2n : (O ++ nk RN).Nodup := by
    rw [List.nodup_append]
    exact ⟨hOn, hrnd, fun a ha b hb' e => by subst e; exact ((hrdy a).mp hb').2.1 ha⟩
  have hlen : (O ++ nk RN).length ≤ 9 := by
    have := List.Nodup.length_le_of_subset hO2n (l₂ := nk (List.range 9)) fun k hk => by
      obtain ⟨i, hi, e⟩ := (hasK_ndsN hb).mp (SS2.on k hk)
      rw [e]; exact mem_nk.mpr (List.mem_range.mpr hi)
    simpa [nk] using this
  have hRl : RN.length ≤ 9 := by rw [List.length_append, List.length_map] at hlen; omega
  have hOlen : (O ++ nk RN).length = O.length + RN.length := by rw [List.length_append, List.length_map]
  have hRNn : RN.Nodup := nodup_of_map hrnd
  have hgr : ∀ y, y ∈ grpK N gs.length ↔ y ∈ RN := fun y => by
    refine Iff.trans ?_ (mem_nk (l := RN))
    rw [hrdy]
    constructor
    · intro hy
      obtain ⟨h1, h2⟩ := List.mem_filter.mp hy
      have hy9 := leftK_lt _ y h1
      refine ⟨(hasK_ndsN hb).mpr ⟨y, hy9, rfl⟩, (hl y hy9).mp h1, fun s hs e => ?_⟩
      obtain ⟨i, z, hi, hz', rfl⟩ := (mem_stN h9).mp hs
      have e' : i = y := by have : PKey.num i = PKey.num y := e; injection this; omega
      subst e'
      have h3 : z ∉ leftK N gs.length := by have := List.all_eq_true.mp h2 z hz'; simpa using this
      apply hOD
      apply Classical.byContradiction
      exact fun q => h3 ((hl z (hb _ z hz')).mpr q)
    · rintro ⟨h1, h2, h3⟩
      obtain ⟨i, hi, e⟩ := (hasK_ndsN hb).mp h1
      have e' : i = y := by injection e; omega
      subst e'
      refine List.mem_filter.mpr ⟨(hl i hi).mpr h2, List.all_eq_true.mpr fun z hz' => ?_⟩
      have := SS.dO _ (h3 (.num z, iv i) ((mem_stN h9).mpr ⟨i, z, hi, hz', rfl⟩) rfl)
      have : z ∉ leftK N gs.length := fun q => (hl z (hb _ z hz')).mp q this
      simpa using this
  obtain ⟨dx, d, ep, ns, r', SC0, hps⟩ := id S
  refine W_isTrue (W_CallMethod (W_lr rfl (by exact hm1) ?_))
  refine W_getMethod G1 (Led.un_left SC0.hx) (Led.un_left SC0.hdx) (by rfl) (by k_is) (by k_is) (by k_is) (W_callWithK0 G1.X (by k_is) ?_)
  refine sActive (G1.le (by decide)) hd S (by rw [List.length_map, List.length_map]; omega) (W_truthyBool ?_)
  rw [show (decide ((D.length : Int) < O.length) || !((RN.map fun (n : Nat) => (PKey.num n, iv n)).map (·.2)).isEmpty) = !RN.isEmpty by rw [decide_eq_false (by omega), Bool.false_or, eR2]; cases RN <;> rfl]
  cases hRe : RN.isEmpty with
  | true =>
    have hR0 : RN = [] := List.isEmpty_iff.mp hRe
    subst hR0
    show W _ _ _ _ _ _
    refine W_execs_nil ?_
    refine W_execs_cons (W_Return (W_Tuple (W_items_cons (W_lr rfl (by exact hm3) (W_items_cons (W_lb rfl (by exact hm2) (W_items_nil (W_newTuple fun a ha => ?_))))))))
    have ha1 := Led.un_none ha
    have le1 := U.le.trans (Led.le_set (o := .tuple [.ref pg, .bool ring]) ha1.2)
    refine ⟨φ.set a (.tuple [.ref pg, .bool ring]), fun b o e => ?_, ?_⟩
    · by_cases q : b = a
      · subst q; rw [Led.set_self] at e ⊢; exact e
      · rw [Led.set_ne q] at e ⊢; exact Led.le_un_right hd _ _ e
    · refine h a pg _ gs ring (le.trans le1) Led.set_self ⟨pg, ys, rfl, Led.set_old hg ha1.2, hr.mono le1⟩ hgs ?_ hring
      exact List.eq_nil_iff_forall_not_mem.mpr fun y hy => by cases (hgr y).mp hy
  | false =>
    have hRne : RN ≠ [] := fun e => by rw [e] at hRe; cases hRe
    have hRp : 0 < RN.length := List.length_pos_iff.mpr hRne
    show W _ _ _ _ _ _
    -- groups.append(sorter.get_ready())
    refine W_execs_cons (W_Expr (W_CallMethod (W_lr rfl (by exact hm3) ?_)))
    refine W_getMethod_list PySem.F.slot_list_append PySem.F.type_list_append (Led.le_un_right hd _ _ hg) ?_
    refine W_callWithB (by intro a h; cases h) (W_arg1 (W_CallMethod (W_lr rfl (by exact hm1) ?_)))
    refine W_getMethod G1 (Led.un_left SC0.hx) (Led.un_left SC0.hdx) (by rfl) (by k_is) (by k_is) (by k_is) (W_callWithK0 G1.X (by k_is) ?_)
    refine sReady (l := RN.map fun (n : Nat) => (PKey.num n, iv n)) (G1.le (by decide)) hh hd S (by rw [List.length_map]; omega) (fun q hq => ?_) fun tg σs' hd2 S2 htg => ?_
    · obtain ⟨n, hn, rfl⟩ := List.mem_map.mp hq
      refine ⟨rfl, ?_⟩
      obtain ⟨u, hu, e⟩ := List.mem_map.mp (hasK_iff.mp ((hrdy (.num n)).mp (mem_nk.mpr hn)).1)
      exact ⟨⟨u, _, _⟩, List.mem_map.mpr ⟨u, hu, rfl⟩, by show u.key = _; rw [SS.nds.has u hu, e]⟩
    rw [hout, show ((O.length : Int) + ((RN.map fun (n : Nat) => (PKey.num n, iv n)).length : Nat)) = ((O ++ nk RN).length : Nat) by rw [hOlen, List.length_map]; omega] at S2
    rw [eR2] at htg
    clear S hd SC0 hps
    obtain ⟨ρ, S3, hd3, e3, htφ⟩ := S2.pull hd2 htg
    rw [e3]
    clear S2 hd2 e3 htg
    have hylen : ys.length = gs.length := by rw [hr.length, List.length_map]
    have U1 := U.new (o := .tuple (RN.map iv)) htφ
    have pl := Led.le_set (o := .tuple (RN.map iv)) (U.none htφ)
    have hg1 : (φ.set tg (.tuple (RN.map iv))) pg = some (.list ys) := Led.set_old hg htφ
    have ht1 : (ψ.set tg (.tuple (RN.map iv))) tg = some (.tuple (RN.map iv)) := Led.set_self
    have le1 := le.trans pl
    have hr1 := hr.mono pl
    generalize (φ.set tg (.tuple (RN.map iv))) = φ₁ at U1 hg1 hd3 ⊢
    generalize (ψ.set tg (.tuple (RN.map iv))) = ψ₁ at U1 ht1 le1 hr1
    clear U hg le hr pl htφ
    have hρg : ρ pg = none := hd3.none hg1
    refine W_append (Led.le_un_right hd3 _ _ hg1) ?_ (by omega)
    rw [show (ρ.un φ₁).set pg (.list (ys ++ [er (.ref tg)])) = ρ.un (φ₁.set pg (.list (ys ++ [.ref tg]))) from (Led.un_set_right hρg).symm]
    have U2 := U1.upd (a := pg) (o := .list (ys ++ [.ref tg]))
    have hd4 := hd3.setR (o := .list (ys ++ [.ref tg])) hρg
    have hg2 : (φ₁.set pg (.list (ys ++ [.ref tg]))) pg = some (.list (ys ++ [.ref tg])) := Led.set_self
    show W _ _ _ _ _ (ρ.un (φ₁.set pg (.list (ys ++ [.ref tg]))))
    generalize (φ₁.set pg (.list (ys ++ [.ref tg]))) = φ₂ at U2 hd4 hg2 ⊢
    have ht2 := U2.le _ _ ht1
    -- sorter.done(*groups[-1])
    obtain ⟨R', SS3, hdn, hnew⟩ := SS2.dones (nk RN) D [] hrnd fun k hk => ⟨List.mem_append_right _ hk, fun z => ((hrdy k).mp hk).2.1 (SS.dO k z)⟩
    obtain ⟨dx2, d2, ep2, ns2, r2, SC2, hps2⟩ := id S3
    refine W_execs_cons (W_Expr (W_CallStar (W_lr rfl (by exact hm1) ?_)))
    refine W_getBound G1 (Led.un_left SC2.hx) (Led.un_left SC2.hdx) (by rfl) (by k_is) (by k_is) (by k_is) (by k_is) (by k_is) (by k_is) (by decide +kernel) fun q hq => ?_
    have hq1 := Led.un_none hq
    rw [show (ρ.un φ₂).set q (.exact (methodObj (.ref 142) (.ref x))) = ρ.un (φ₂.set q (.exact (methodObj (.ref 142) (.ref x)))) from (Led.un_set_right hq1.1).symm]
    have hd5 := hd4.setR (o := .exact (methodObj (.ref 142) (.ref x))) hq1.1
    have hqq := Led.le_un_right hd5 q _ Led.set_self
    refine W_callWithM (f := 142) (self := .ref x) G1 (by k_is) (by rfl) (W_argsStar (W_Subscript (W_lr rfl (by exact hm3) (W_UnaryOp (W_constInt fun t => W_neg fun t => W_itemLast (Led.le_un_right hd5 _ _ (Led.set_old hg2 hq1.2)) (by omega) fun v hv => ?_)))))
    refine ⟨tg, RN.map iv, er_ref hv, .inr (Led.le_un_right hd5 _ _ (Led.set_old ht2 hq1.2)), by rw [List.length_map]; omega, fun vs hvs => ⟨hqq, W_callBound hqq ?_⟩⟩
    refine sDone (ks := RN.map fun (n : Nat) => (PKey.num n, iv n)) (G1.le (by decide)) hh hd5 S3 (by rw [hvs, eR2]) (fun q hq => by obtain ⟨n, _, rfl⟩ := List.mem_map.mp hq; rfl) (by rw [List.length_map]; omega) (closed_psD SS2) (suB_psD hz _ _) (by decide) (by rw [eR]; exact hdn) fun σs3 hd6 S4 => ?_
    refine W_shrink (σ' := σs3.un φ₂) (un_le_un (Led.le_set hq1.2)) ?_
    have hd7 := hd6.le (Led.le_set hq1.2)
    rw [show ((D.length : Int) + ((RN.map fun (n : Nat) => (PKey.num n, iv n)).length : Nat)) = (((nk RN).reverse ++ D).length : Nat) by rw [List.length_append, List.length_reverse, List.length_map, List.length_map]; omega] at S4
    refine W_execs_nil ⟨9 - (O ++ nk RN).length, by omega, by exact hm1, by exact hm2, by exact hm3, σs3, φ₂, ψ₁, gs ++ [RN], ys ++ [.ref tg], _, O ++ nk RN, R', rfl, hd7, U2, le1, hg2, ?_, SS3, fun q hq => ?_, S4, by rw [List.length_append, List.length_reverse, List.length_append]; omega, hO2n, fun k hk => ?_, fun y hy => ?_, fun k g e => ?_, by rw [hOlen, List.length_append, List.length_singleton]; omega, rfl⟩
    · rw [List.map_append]; exact RDs.push (RD_dT.mpr ⟨tg, rfl, ht1⟩) hr1
    · rcases hnew q hq with z | ⟨D', k', z⟩
      · cases z
      · exact isIv_newly h9 q z
    · rcases List.mem_append.mp hk with z | z
      · exact List.mem_append_right _ (hOD k z)
      · exact List.mem_append_left _ (List.mem_reverse.mpr z)
    · rw [List.length_append, List.length_singleton]
      show y ∈ (leftK N gs.length).filter (fun i => !(grpF N (leftK N gs.length)).contains i) ↔ _
      rw [List.mem_filter, hl y hy, List.mem_append, mem_nk, ← hgr y]
      have : (!(grpF N (leftK N gs.length)).contains y) = true ↔ y ∉ grpK N gs.length := by rw [Bool.not_eq_true', ← Bool.not_eq_true, List.contains_iff_mem]; exact Iff.rfl
      rw [this]
      constructor
      · rintro ⟨h1, h2⟩ (h3 | h3)
        · exact h1 h3
        · exact h2 h3
      · exact fun h => ⟨fun z => h (.inl z), fun z => h (.inr z)⟩
    · by_cases q : k < gs.length
      · rw [List.getElem?_append_left q] at e; exact hgs k g e
      · have hk : k = gs.length := by
          have := (List.getElem?_eq_some_iff.mp e).1
          rw [List.length_append, List.length_singleton] at this; omega
        subst hk
        rw [List.getElem?_append_right (Nat.le_refl _)] at e
        simp at e
        subst e
        exact ⟨(List.perm_ext_iff_of_nodup hRNn (((List.nodup_range.sublist (leftK_sub _)).filter _))).mpr fun y => (hgr y).symm, hRne⟩
end L1
end Mine
end
section
namespace Mine
namespace L1
/-! the marks: told from above, till they stand -/
noncomputable def fk (N : List (List Nat)) (k a : Nat) : Nat := mkOf (marksK N k) a
theorem fk_lt {N : List (List Nat)} (k : Nat) {a : Nat} (h : a < 9) : fk N k a < 9 := by
  unfold fk mkOf
  have : a < (marksK N k).length := by rw [marksK_len]; exact h
  rw [List.getElem?_eq_getElem this]
  exact marksK_lt k _ (List.getElem_mem this)
theorem fk_zero {N : List (List Nat)} {a : Nat} : fk N 0 a = 0 := by
  unfold fk mkOf marksK
  cases e : (List.replicate 9 0)[a]? with
  | none => rfl
  | some x =>
    have := List.mem_of_getElem? e
    rw [List.mem_replicate] at this
    exact this.2
theorem fk_succ {N : List (List Nat)} {k a : Nat} (h : a < 9) : fk N (k + 1) a = firstOf N (marksK N k) a := by
  show mkOf (stepM N (marksK N k)) a = _
  unfold mkOf stepM
  rw [List.getElem?_map, List.getElem?_range h]; rfl
/-- two rows hold the same marks -/
noncomputable def Same (N : List (List Nat)) (k a b : Nat) : Prop := ∀ x, x ∈ (nd N a).map (fk N k) ↔ x ∈ (nd N b).map (fk N k)
section
variable {N : List (List Nat)} (hb : ∀ i, ∀ x ∈ nd N i, x < 9)
include hb
theorem same_row {k a b : Nat} : rowF N (marksK N k) a = rowF N (marksK N k) b ↔ Same N k a b := by
  have key : ∀ a x, x ∈ rowF N (marksK N k) a ↔ x ∈ (nd N a).map (fk N k) := fun a x => by
    unfold rowF
    rw [List.mem_filter, List.mem_range, List.contains_iff_mem]
    refine ⟨fun h => h.2, fun h => ⟨?_, h⟩⟩
    obtain ⟨y, hy, rfl⟩ := List.mem_map.mp h
    exact fk_lt k (hb a y hy)
  constructor
  · intro h x; rw [← key, ← key, h]
  · intro h
    refine List.filter_congr fun x hx => ?_
    rw [Bool.eq_iff_iff, List.contains_iff_mem, List.contains_iff_mem]
    exact h x
theorem fk_iff {k a b : Nat} (ha : a < 9) (hb' : b < 9) : fk N (k + 1) a = fk N (k + 1) b ↔ Same N k a b := by
  rw [fk_succ ha, fk_succ hb', ← same_row hb]
  constructor
  · intro h
    rw [← firstOf_is (N := N) (M := marksK N k) ha, h, firstOf_is hb']
  · intro h
    unfold firstOf; rw [h]
theorem same_of {k j a b : Nat} (hf : ∀ x y, x < 9 → y < 9 → fk N k x = fk N k y → fk N j x = fk N j y) (h : Same N k a b) : Same N j a b := by
  have one : ∀ a b, Same N k a b → ∀ x, x ∈ (nd N a).map (fk N j) → x ∈ (nd N b).map (fk N j) := fun a b h x hx => by
    obtain ⟨y, hy, rfl⟩ := List.mem_map.mp hx
    obtain ⟨z, hz, e⟩ := List.mem_map.mp ((h _).mp (List.mem_map.mpr ⟨y, hy, rfl⟩))
    exact List.mem_map.mpr ⟨z, hz, hf z y (hb b z hz) (hb a y hy) e⟩
  exact fun x => ⟨one a b h x, one b a (fun x => (h x).symm) x⟩
theorem fk_mono : ∀ (k : Nat) (a b : Nat), a < 9 → b < 9 → fk N (k + 1) a = fk N (k + 1) b → fk N k a = fk N k b
  | 0, a, b, _, _, _ => by rw [fk_zero, fk_zero]
  | k + 1, a, b, ha, hb', h => (fk_iff hb ha hb').mpr (same_of hb (fk_mono k) ((fk_iff hb ha hb').mp h))
/-- nothing more is told apart -/
noncomputable def Stands (N : List (List Nat)) (k : Nat) : Prop := ∀ a b, a < 9 → b < 9 → fk N k a = fk N k b → fk N (k + 1) a = fk N (k + 1) b
theorem stands_succ {k : Nat} (h : Stands N k) : Stands N (k + 1) := fun a b ha hb' e => (fk_iff hb ha hb').mpr (same_of hb h ((fk_iff hb ha hb').mp e))
omit hb in
/-- the first of each mark -/
noncomputable def lead (N : List (List Nat)) (k : Nat) : List Nat := (List.range 9).filter fun i => decide (∀ j, j < i → fk N k j ≠ fk N k i)
theorem has_lead (k : Nat) : ∀ a, a < 9 → ∃ l ∈ lead N k, fk N k l = fk N k a := fun a ha => by
  induction a using Nat.strongRecOn with
  | _ a ih =>
    by_cases h : ∀ j, j < a → fk N k j ≠ fk N k a
    · exact ⟨a, List.mem_filter.mpr ⟨List.mem_range.mpr ha, decide_eq_true h⟩, rfl⟩
    · have ⟨j, hj⟩ := Classical.not_forall.mp h
      have ⟨hja, hje⟩ := Classical.not_imp.mp hj
      have hje' := Classical.not_not.mp hje
      obtain ⟨l, hl, e⟩ := ih j hja (by omega)
      exact ⟨l, hl, e.trans hje'⟩
theorem lead_eq {k l l' : Nat} (h : l ∈ lead N k) (h' : l' ∈ lead N k) (e : fk N k l = fk N k l') : l = l' := by
  have q := of_decide_eq_true (List.mem_filter.mp h).2
  have q' := of_decide_eq_true (List.mem_filter.mp h').2
  rcases Nat.lt_trichotomy l l' with z | z | z
  · exact absurd e (q' l z)
  · exact z
  · exact absurd e.symm (q l' z)
theorem lead_more {k : Nat} (h : ¬ Stands N k) : (lead N k).length < (lead N (k + 1)).length := by
  have sub : ∀ l ∈ lead N k, l ∈ lead N (k + 1) := fun l hl => by
    obtain ⟨h1, h2⟩ := List.mem_filter.mp hl
    have h3 := of_decide_eq_true h2
    have hl9 := List.mem_range.mp h1
    exact List.mem_filter.mpr ⟨h1, decide_eq_true fun j hj e => h3 j hj (fk_mono hb k j l (by omega) hl9 e)⟩
  obtain ⟨x, hx, hx'⟩ : ∃ x ∈ lead N (k + 1), x ∉ lead N k := by
    apply Classical.byContradiction
    intro hno
    have all : ∀ x ∈ lead N (k + 1), x ∈ lead N k := fun x hx => Classical.byContradiction fun q => hno ⟨x, hx, q⟩
    refine h fun a b ha hb' e => ?_
    obtain ⟨l, hl, el⟩ := has_lead hb (k + 1) a ha
    obtain ⟨l', hl', el'⟩ := has_lead hb (k + 1) b hb'
    have l9 := List.mem_range.mp (List.mem_filter.mp hl).1
    have l9' := List.mem_range.mp (List.mem_filter.mp hl').1
    have := lead_eq hb (all l hl) (all l' hl') (((fk_mono hb k l a l9 ha el).trans e).trans (fk_mono hb k l' b l9' hb' el').symm)
    rw [← el, this, el']
  have hn : (x :: lead N k).Nodup := List.nodup_cons.mpr ⟨hx', List.nodup_range.filter _⟩
  have := List.Nodup.length_le_of_subset hn (l₂ := lead N (k + 1)) fun y hy => by
    rcases List.mem_cons.mp hy with e | e
    · rw [e]; exact hx
    · exact sub y e
  rw [List.length_cons] at this
  omega
theorem stands9 : Stands N 9 := by
  have up : ∀ k j, Stands N k → Stands N (k + j) := fun k j h => by
    induction j with
    | zero => exact h
    | succ j ih => exact stands_succ hb ih
  have some : ∃ k, k ≤ 9 ∧ Stands N k := by
    apply Classical.byContradiction
    intro hno
    have grow : ∀ k, k ≤ 9 → k < (lead N k).length := by
      intro k
      induction k with
      | zero =>
        intro _
        obtain ⟨l, hl, _⟩ := has_lead hb 0 0 (by decide)
        exact List.length_pos_iff.mpr fun e => by rw [e] at hl; cases hl
      | succ k ih =>
        intro hk
        have := lead_more hb (k := k) fun q => hno ⟨k, by omega, q⟩
        have := ih (by omega)
        omega
    have h1 := grow 9 (Nat.le_refl _)
    have h2 : (lead N 9).length ≤ 9 := by
      have := List.length_filter_le (fun i => decide (∀ j, j < i → fk N 9 j ≠ fk N 9 i)) (List.range 9)
      simpa [lead] using this
    omega
  obtain ⟨k, hk, h⟩ := some
  have := up k (9 - k) h
  rwa [show k + (9 - k) = 9 by omega] at this
/-- one mark, just if the rows hold the same marks -/
theorem marks_is {a b : Nat} (ha : a < 9) (hb' : b < 9) : fk N 9 a = fk N 9 b ↔ Same N 9 a b :=
  ⟨fun h => (fk_iff hb ha hb').mp (stands9 hb a b ha hb' h), fun h => fk_mono hb 9 a b ha hb' ((fk_iff hb ha hb').mpr h)⟩
end
end L1
end Mine
end
section
namespace Mine
noncomputable def listMax1 : List Nat → Nat
  | [] => 0
  | x :: l => max x (listMax1 l)
theorem le_listMax1 : ∀ {l : List Nat} {x : Nat}, x ∈ l → x ≤ listMax1 l
  | y :: l, x, h => by
    show x ≤ max y (listMax1 l)
    rcases List.mem_cons.mp h with e | e
    · omega
    · have := le_listMax1 e; omega
namespace L1
/-- names handed out, each behind its members, till no more can be -/
structure Given (N : List (List Nat)) (F : List Nat) : Prop where
  lt : ∀ x ∈ F, x < 9
  nodup : F.Nodup
  ahead : ∀ k y, F[k]? = some y → ∀ x ∈ nd N y, x ∈ F.take k
  closed : ∀ y, y < 9 → (∀ x ∈ nd N y, x ∈ F) → y ∈ F
section
variable {N : List (List Nat)} {gs : List (List Nat)} (hb : ∀ i, ∀ x ∈ nd N i, x < 9) (hgs : ∀ k g, gs[k]? = some g → g.Perm (grpK N k) ∧ g ≠ [])
include hgs
theorem left_take : ∀ k, k ≤ gs.length → ∀ y, y < 9 → (y ∈ leftK N k ↔ y ∉ (gs.take k).flatten)
  | 0, _, y, hy => by simp [leftK]; exact hy
  | k + 1, hk, y, hy => by
    have hk' : k < gs.length := by omega
    have e : gs[k]? = some gs[k] := List.getElem?_eq_getElem hk'
    rw [List.take_add_one, e, List.flatten_append, List.mem_append]
    show y ∈ (leftK N k).filter (fun i => !(grpF N (leftK N k)).contains i) ↔ _
    rw [List.mem_filter, left_take k (by omega) y hy]
    have hm : y ∈ grpF N (leftK N k) ↔ y ∈ gs[k] := ((hgs k _ e).1.mem_iff).symm
    have : (!(grpF N (leftK N k)).contains y) = true ↔ y ∉ gs[k] := by rw [Bool.not_eq_true', ← Bool.not_eq_true, List.contains_iff_mem, hm]
    rw [this]
    simp only [Option.toList_some, List.flatten_cons, List.flatten_nil, List.append_nil]
    constructor
    · rintro ⟨h1, h2⟩ (h3 | h3)
      · exact h1 h3
      · exact h2 h3
    · exact fun h => ⟨fun z => h (.inl z), fun z => h (.inr z)⟩
theorem take_nodup : ∀ k, k ≤ gs.length → ((gs.take k).flatten).Nodup
  | 0, _ => by simp
  | k + 1, hk => by
    have hk' : k < gs.length := by omega
    have e : gs[k]? = some gs[k] := List.getElem?_eq_getElem hk'
    rw [List.take_add_one, e, List.flatten_append]
    simp only [Option.toList_some, List.flatten_cons, List.flatten_nil, List.append_nil]
    rw [List.nodup_append]
    have hp := (hgs k _ e).1
    have hn : (grpK N k).Nodup := ((List.nodup_range.sublist (leftK_sub k)).filter _)
    refine ⟨take_nodup k (by omega), hp.nodup_iff.mpr hn, fun a ha b hb' z => ?_⟩
    subst z
    have h1 : a ∈ leftK N k := (List.mem_filter.mp (hp.mem_iff.mp hb')).1
    exact (left_take hgs k (by omega) a (leftK_lt k a h1)).mp h1 ha
include hb in
theorem given_of (hend : grpK N gs.length = []) : Given N gs.flatten := by
  have htk : gs.take gs.length = gs := List.take_length ..
  have hlt : ∀ x ∈ gs.flatten, x < 9 := fun x hx => by
    obtain ⟨g, hg, hxg⟩ := List.mem_flatten.mp hx
    obtain ⟨k, hk⟩ := List.mem_iff_getElem?.mp hg
    have := (hgs k g hk).1.mem_iff.mp hxg
    exact leftK_lt k x (List.mem_filter.mp this).1
  refine ⟨hlt, by have := take_nodup hgs gs.length (Nat.le_refl _); rwa [htk] at this, fun j y hj x hx => ?_, fun y hy h => ?_⟩
  · -- where the name's group begins
    have key : ∀ (l : List (List Nat)) (j : Nat) (y : Nat), l.flatten[j]? = some y → ∃ k g, l[k]? = some g ∧ y ∈ g ∧ ((l.take k).flatten).length ≤ j := by
      intro l
      induction l with
      | nil => intro j y h; simp at h
      | cons g l ih =>
        intro j y h
        rw [List.flatten_cons] at h
        by_cases q : j < g.length
        · rw [List.getElem?_append_left q] at h
          exact ⟨0, g, rfl, List.mem_of_getElem? h, by simp⟩
        · rw [List.getElem?_append_right (by omega)] at h
          obtain ⟨k, g', h1, h2, h3⟩ := ih _ y h
          refine ⟨k + 1, g', h1, h2, ?_⟩
          rw [List.take_succ_cons, List.flatten_cons, List.length_append]; omega
    obtain ⟨k, g, hk, hy, hlen⟩ := key gs j y hj
    have hk' := (List.getElem?_eq_some_iff.mp hk).1
    obtain ⟨h1, h2⟩ := List.mem_filter.mp ((hgs k g hk).1.mem_iff.mp hy)
    have hx' : x ∉ leftK N k := by have := List.all_eq_true.mp h2 x hx; simpa using this
    have hx9 : x < 9 := by
      have hy9 := leftK_lt k y h1
      exact Classical.byContradiction fun q => by
        have := hb y x hx
        omega
    have hin : x ∈ (gs.take k).flatten := Classical.byContradiction fun q => hx' ((left_take hgs k (by omega) x hx9).mpr q)
    have hpre : (gs.take k).flatten = gs.flatten.take ((gs.take k).flatten).length := by
      conv => rhs; rw [← List.take_append_drop k gs, List.flatten_append]
      rw [List.take_append_drop, List.take_left']; rfl
    rw [hpre] at hin
    exact (List.take_sublist_take_left hlen).subset hin
  · apply Classical.byContradiction
    intro hn
    have h1 : y ∈ leftK N gs.length := (left_take hgs _ (Nat.le_refl _) y hy).mpr (by rw [htk]; exact hn)
    have : y ∈ grpK N gs.length := List.mem_filter.mpr ⟨h1, List.all_eq_true.mpr fun x hx => by
      have h2 := h x hx
      have h3 : x ∉ leftK N gs.length := fun q => (left_take hgs _ (Nat.le_refl _) x (hlt x h2)).mp q (by rw [htk]; exact h2)
      simpa using h3⟩
    rw [hend] at this; cases this
end
end L1
end Mine
end
section
namespace Mine
namespace L1
section
variable {N : List (List Nat)} {F : List Nat}
theorem Given.ind (Gv : Given N F) {P : Nat → Prop} (h : ∀ y ∈ F, (∀ x ∈ nd N y, P x) → P y) : ∀ y ∈ F, P y := by
  have key : ∀ (k : Nat) (y : Nat), F[k]? = some y → P y := by
    intro k
    induction k using Nat.strongRecOn with
    | ind k ih =>
      intro y hy
      refine h y (List.mem_of_getElem? hy) fun x hx => ?_
      obtain ⟨j, hj⟩ := List.mem_iff_getElem?.mp (Gv.ahead k y hy x hx)
      have hjk : j < k := by
        have := (List.getElem?_eq_some_iff.mp hj).1
        rw [List.length_take] at this; omega
      rw [List.getElem?_take, if_pos hjk] at hj
      exact ih j hjk x hj
  intro y hy
  obtain ⟨k, hk⟩ := List.mem_iff_getElem?.mp hy
  exact key k y hk
theorem Given.le (Gv : Given N F) : F.length ≤ 9 := by
  have := List.Nodup.length_le_of_subset Gv.nodup (l₂ := List.range 9) fun x hx => List.mem_range.mpr (Gv.lt x hx)
  simpa using this
/-- the ring's word is whether all are handed out -/
theorem ring_is (h9 : N.length = 9) (hb : ∀ i, ∀ x ∈ nd N i, x < 9) (Gv : Given N F) {b : Bool} (h : RingW N b) : b = decide (F.length < 9) := by
  have nds := (startN h9 hb).nds
  have hsu : (fun k => suOf k (psD (ndsN N) (stN N) [] [])) = suF (stN N) := by
    funext k
    refine suOf_mk nds ?_
    rw [npD_nil]
    exact (addsP_mk _ (addsN_ok N 9)).2.2
  have hnode : (psD (ndsN N) (stN N) [] []).map (·.node) = ndsN N := by
    unfold psD mkPS; rw [List.map_map]; exact List.map_id _
  have hle := Gv.le
  unfold RingW at h
  rw [hsu, hnode] at h
  cases b with
  | false =>
    obtain ⟨ρ, hρ⟩ := (h.1 rfl).acyclic
    obtain ⟨M, hM⟩ : ∃ M, ∀ x, x < 9 → ρ (.num (x : Nat)) ≤ M :=
      ⟨listMax1 ((List.range 9).map fun (x : Nat) => ρ (.num x)), fun x hx => le_listMax1 (List.mem_map.mpr ⟨x, List.mem_range.mpr hx, rfl⟩)⟩
    have all : ∀ n x, x < 9 → M - ρ (.num (x : Nat)) = n → x ∈ F := by
      intro n
      induction n using Nat.strongRecOn with
      | ind n ih =>
        intro x hx e
        refine Gv.closed x hx fun y hy => ?_
        have hy9 := hb x y hy
        obtain ⟨u, hu, eu⟩ := List.mem_map.mp (hasK_iff.mp ((hasK_ndsN hb).mpr ⟨y, hy9, rfl⟩))
        have := hρ u hu (iv x) (by rw [eu]; exact List.mem_map.mpr ⟨(.num y, iv x), List.mem_filter.mpr ⟨(mem_stN h9).mpr ⟨x, y, hx, hy, rfl⟩, by simp⟩, rfl⟩)
        rw [eu, kOf_iv] at this
        have := hM x hx
        have := hM y hy9
        exact ih (M - ρ (.num (y : Nat))) (by omega) y hy9 rfl
    have : (List.range 9).length ≤ F.length := List.Nodup.length_le_of_subset List.nodup_range fun x hx => all _ x (List.mem_range.mp hx) rfl
    simp at this
    rw [decide_eq_false (by omega)]
  | true =>
    obtain ⟨l, hl⟩ := h.2 rfl
    obtain ⟨C, hC, hp⟩ := hl.ringSet (fun k s hs => by
      obtain ⟨t, ht, rfl⟩ := List.mem_map.mp hs
      obtain ⟨i, x, _, _, rfl⟩ := (mem_stN h9).mp (List.mem_filter.mp ht).1
      rfl) rfl
    have none_in : ∀ x ∈ F, PKey.num x ∉ C := Gv.ind fun x hx ih hm => by
      obtain ⟨p, hpC, s, hs, e⟩ := hp _ hm
      obtain ⟨t, ht, rfl⟩ := List.mem_map.mp hs
      obtain ⟨h1, h2⟩ := List.mem_filter.mp ht
      obtain ⟨i, y, _, hy, rfl⟩ := (mem_stN h9).mp h1
      have e' : i = x := by have : PKey.num i = PKey.num x := e; injection this; omega
      subst e'
      have h3 : PKey.num y = p := of_decide_eq_true h2
      exact ih y hy (h3 ▸ hpC)
    have : F.length < 9 := by
      apply Classical.byContradiction
      intro hlt
      cases hc : C with
      | nil => exact hC hc
      | cons k r =>
        have hk : k ∈ C := by rw [hc]; exact .head _
        obtain ⟨p, hpC, s, hs, e⟩ := hp k hk
        obtain ⟨t, ht, rfl⟩ := List.mem_map.mp hs
        obtain ⟨i, y, hi, hy, rfl⟩ := (mem_stN h9).mp (List.mem_filter.mp ht).1
        have hiF : i ∈ F := by
          apply Classical.byContradiction
          intro hn
          have := List.Nodup.length_le_of_subset (l₁ := i :: F) (l₂ := List.range 9) (List.nodup_cons.mpr ⟨hn, Gv.nodup⟩) fun x hx => by
            rcases List.mem_cons.mp hx with q | q
            · rw [q]; exact List.mem_range.mpr hi
            · exact List.mem_range.mpr (Gv.lt x q)
          rw [List.length_cons, List.length_range] at this
          omega
        exact none_in i hiF (by have : kOf (iv i) = k := e; rw [kOf_iv] at this; rw [this]; exact hk)
    rw [decide_eq_true this]
/-- the sorted groups are the founded ones -/
theorem groups_is {gs : List (List Nat)} {k : Nat} (hgs : ∀ k g, gs[k]? = some g → g.Perm (grpK N k) ∧ g ≠ []) (hend : grpK N gs.length = []) (hk : grpK N k = []) (hne : ∀ j, j < k → grpK N j ≠ []) : k = gs.length := by
  rcases Nat.lt_trichotomy k gs.length with z | z | z
  · obtain ⟨h1, h2⟩ := hgs k gs[k] (List.getElem?_eq_getElem z)
    rw [hk] at h1
    exact absurd (List.perm_nil.mp h1) h2
  · exact z
  · exact absurd hend (hne _ z)
theorem grpK_sorted (k : Nat) : (grpK N k).Pairwise (· ≤ ·) := ((List.pairwise_lt_range.sublist (leftK_sub k)).filter _).imp fun h => Nat.le_of_lt h
theorem memb_ok (xs : List Int) : (membF xs).length = 9 ∧ (∀ i, (nd (membF xs) i).length ≤ 3) ∧ ∀ i, ∀ x ∈ nd (membF xs) i, x < 9 := by
  have get : ∀ i, nd (membF xs) i = if i < 9 then memb1 (xs[i]?.getD 0) i else [] := fun i => by
    unfold nd membF
    rw [List.getElem?_map]
    by_cases q : i < 9
    · rw [List.getElem?_range q, if_pos q]; rfl
    · rw [List.getElem?_eq_none (by simpa using Nat.le_of_not_lt q), if_neg q]; rfl
  refine ⟨by unfold membF; simp, fun i => ?_, fun i x hx => ?_⟩
  · rw [get]
    split
    · exact memb1_len _ _
    · simp
  · rw [get] at hx
    split at hx
    · rename_i hi; exact memb1_lt hi x hx
    · cases hx
end
end L1
/-! weeding by marks -/
section
variable {α : Type} (e : α → α → Bool)
noncomputable def wdStep (acc : List α) (x : α) : List α := if acc.any (fun y => e y x) then acc else acc ++ [x]
noncomputable def wd (l : List α) : List α := l.foldl (wdStep e) []
variable {e}
theorem wd_sub {l : List α} : ∀ x ∈ wd e l, x ∈ l := by
  have key : ∀ (l acc : List α), ∀ x ∈ l.foldl (wdStep e) acc, x ∈ acc ∨ x ∈ l := by
    intro l
    induction l with
    | nil => intro acc x h; exact .inl h
    | cons y l ih =>
      intro acc x h
      rcases ih _ x h with z | z
      · unfold wdStep at z
        split at z
        · exact .inl z
        · rcases List.mem_append.mp z with w | w
          · exact .inl w
          · rw [List.mem_singleton.mp w]; exact .inr (.head _)
      · exact .inr (.tail _ z)
  intro x h
  rcases key l [] x h with z | z
  · cases z
  · exact z
theorem ded_wd {g : α → PyData × AV} {l : List α} (h : ∀ x ∈ l, ∀ y ∈ l, PyData.eqv (g x).1 (g y).1 = e x y) : ded (l.map g) = (wd e l).map g := by
  have key : ∀ (r acc : List α), (∀ x ∈ acc, x ∈ l) → (∀ x ∈ r, x ∈ l) → (r.map g).foldl dedStep (acc.map g) = (r.foldl (wdStep e) acc).map g := by
    intro r
    induction r with
    | nil => intro acc _ _; rfl
    | cons x r ih =>
      intro acc ha hr
      rw [List.map_cons, List.foldl_cons, List.foldl_cons]
      have hx := hr x (.head _)
      have e1 : (acc.map g).any (fun q => PyData.eqv q.1 (g x).1) = acc.any (fun y => e y x) := by
        rw [List.any_map, Bool.eq_iff_iff, List.any_eq_true, List.any_eq_true]
        constructor
        · rintro ⟨y, hy, q⟩; exact ⟨y, hy, by rw [← h y (ha y hy) x hx]; exact q⟩
        · rintro ⟨y, hy, q⟩; exact ⟨y, hy, by show PyData.eqv _ _ = true; rw [h y (ha y hy) x hx]; exact q⟩
      have e2 : dedStep (acc.map g) (g x) = (wdStep e acc x).map g := by
        unfold dedStep wdStep
        rw [e1]
        split
        · rfl
        · rw [List.map_append]; rfl
      rw [e2]
      refine ih _ (fun y hy => ?_) fun y hy => hr y (.tail _ hy)
      unfold wdStep at hy
      split at hy
      · exact ha y hy
      · rcases List.mem_append.mp hy with w | w
        · exact ha y w
        · rw [List.mem_singleton.mp w]; exact hx
  exact key l [] (fun _ h => (nomatch h)) fun _ h => h
end
end Mine
end
section
namespace Mine
/-! weeding numbers -/
noncomputable def dstep (acc : List Nat) (x : Nat) : List Nat := if acc.contains x then acc else acc ++ [x]
noncomputable def dd (acc xs : List Nat) : List Nat := xs.foldl dstep acc
noncomputable def ddup (xs : List Nat) : List Nat := dd [] xs
theorem dstep_in {acc : List Nat} {x : Nat} (h : x ∈ acc) : dstep acc x = acc := by unfold dstep; rw [if_pos (by simpa using h)]
theorem dstep_out {acc : List Nat} {x : Nat} (h : x ∉ acc) : dstep acc x = acc ++ [x] := by unfold dstep; rw [if_neg (by simpa using h)]
theorem mem_dstep {acc : List Nat} {x y : Nat} : y ∈ dstep acc x ↔ y ∈ acc ∨ y = x := by
  by_cases h : x ∈ acc
  · rw [dstep_in h]
    constructor
    · exact .inl
    · rintro (q | q); exact q; rw [q]; exact h
  · rw [dstep_out h]; simp
theorem mem_dd : ∀ {xs acc : List Nat} {y : Nat}, y ∈ dd acc xs ↔ y ∈ acc ∨ y ∈ xs
  | [], acc, y => by simp [dd]
  | x :: xs, acc, y => by
    show y ∈ dd (dstep acc x) xs ↔ _
    rw [mem_dd, mem_dstep, List.mem_cons, or_assoc]
theorem mem_ddup {xs : List Nat} {y : Nat} : y ∈ ddup xs ↔ y ∈ xs := by unfold ddup; rw [mem_dd]; simp
theorem dd_nodup : ∀ {xs acc : List Nat}, acc.Nodup → (dd acc xs).Nodup
  | [], _, h => h
  | x :: xs, acc, h => by
    show (dd (dstep acc x) xs).Nodup
    apply dd_nodup
    by_cases q : x ∈ acc
    · rw [dstep_in q]; exact h
    · rw [dstep_out q, List.nodup_append]
      exact ⟨h, by simp, fun a ha b hb e => by rw [List.mem_singleton.mp hb] at e; exact q (e ▸ ha)⟩
theorem ddup_nodup (xs : List Nat) : (ddup xs).Nodup := dd_nodup List.nodup_nil
noncomputable abbrev prN (n : Nat) : PyData × AV := (.int n, iv n)
theorem any_prN (acc : List Nat) (x : Nat) : (acc.map prN).any (fun q => PyData.eqv q.1 (.int x)) = acc.contains x := by
  rw [List.any_map]
  have := any_ints acc x
  rw [List.any_map] at this
  exact this
theorem ded_ints (ns : List Nat) : ded (ns.map prN) = (ddup ns).map prN := by
  have key : ∀ (ns acc : List Nat), (ns.map prN).foldl dedStep (acc.map prN) = (dd acc ns).map prN := by
    intro ns
    induction ns with
    | nil => intro acc; rfl
    | cons x ns ih =>
      intro acc
      rw [List.map_cons, List.foldl_cons]
      have : dedStep (acc.map prN) (prN x) = (dstep acc x).map prN := by
        unfold dedStep dstep
        rw [any_prN]
        split
        · rfl
        · rw [List.map_append]; rfl
      rw [this]; exact ih _
  exact key ns []
theorem remD_ints (x : Nat) : ∀ (l : List Nat), remD (.int x) (l.map prN) = if x ∈ l then some ((l.erase x).map prN) else none
  | [] => by simp [remD]
  | y :: l => by
    rw [List.map_cons]
    unfold remD
    rw [eqv_int, remD_ints x l]
    by_cases h : y = x
    · subst h; simp
    · have h' : ¬ x = y := fun e => h e.symm
      rw [if_neg (by simpa using h)]
      by_cases q : x ∈ l
      · rw [if_pos q, if_pos (.tail _ q), List.erase_cons_tail (by simpa using h)]; rfl
      · rw [if_neg q, if_neg (fun z => by rcases List.mem_cons.mp z with e | e; exact h' e; exact q e)]; rfl
theorem remAll_ints : ∀ (a t : List Nat), a.Nodup → t.Nodup → ((∀ x ∈ a, x ∈ t) → ∃ r : List Nat, remAll (a.map prN) (t.map prN) = some (r.map prN) ∧ r.Nodup ∧ ∀ x, x ∈ r ↔ x ∈ t ∧ x ∉ a) ∧ ((¬ ∀ x ∈ a, x ∈ t) → remAll (a.map prN) (t.map prN) = none)
  | [], t, _, ht => ⟨fun _ => ⟨t, rfl, ht, fun x => by simp⟩, fun h => absurd (fun x hx => (nomatch hx)) h⟩
  | y :: a, t, ha, ht => by
    rw [List.nodup_cons] at ha
    have e : remAll ((y :: a).map prN) (t.map prN) = (if y ∈ t then remAll (a.map prN) ((t.erase y).map prN) else none) := by
      unfold remAll
      rw [List.map_cons, List.foldl_cons]
      show List.foldl _ (remD (.int y) (t.map prN)) _ = _
      rw [remD_ints]
      by_cases h : y ∈ t
      · rw [if_pos h, if_pos h]
      · rw [if_neg h, if_neg h]; exact foldl_bind_none _
    have hte : (t.erase y).Nodup := ht.erase y
    have hme : ∀ x, x ∈ t.erase y ↔ x ≠ y ∧ x ∈ t := fun x => ht.mem_erase_iff
    obtain ⟨i1, i2⟩ := remAll_ints a (t.erase y) ha.2 hte
    rw [e]
    constructor
    · intro h
      rw [if_pos (h y (.head _))]
      obtain ⟨r, r1, r2, r3⟩ := i1 fun x hx => (hme x).mpr ⟨fun q => ha.1 (q ▸ hx), h x (.tail _ hx)⟩
      refine ⟨r, r1, r2, fun x => ?_⟩
      rw [r3 x, hme x, List.mem_cons]
      constructor
      · rintro ⟨⟨h1, h2⟩, h3⟩; exact ⟨h2, fun q => by rcases q with q | q; exact h1 q; exact h3 q⟩
      · rintro ⟨h1, h2⟩; exact ⟨⟨fun q => h2 (.inl q), h1⟩, fun q => h2 (.inr q)⟩
    · intro h
      by_cases hy : y ∈ t
      · rw [if_pos hy]
        refine i2 fun q => h fun x hx => ?_
        rcases List.mem_cons.mp hx with z | z
        · rw [z]; exact hy
        · exact ((hme x).mp (q x z)).2
      · rw [if_neg hy]
/-- the two lists hold the same -/
theorem cmpF_ints (a b : List Nat) : cmpF (a.map prN) (b.map prN) = (a.all b.contains && b.all a.contains) := by
  unfold cmpF
  rw [ded_ints, ded_ints]
  obtain ⟨h1, h2⟩ := remAll_ints (ddup a) (ddup b) (ddup_nodup a) (ddup_nodup b)
  by_cases h : ∀ x ∈ ddup a, x ∈ ddup b
  · obtain ⟨r, r1, _, r3⟩ := h1 h
    rw [r1]
    have hab : a.all b.contains = true := by
      rw [List.all_eq_true]; intro x hx
      simpa using mem_ddup.mp (h x (mem_ddup.mpr hx))
    rw [hab, Bool.true_and]
    show (r.map prN).isEmpty = _
    rw [Bool.eq_iff_iff, List.all_eq_true]
    constructor
    · intro q x hx
      have hr : r = [] := by cases r with | nil => rfl | cons _ _ => cases q
      subst hr
      have := r3 x
      have hx' : ¬ (x ∈ ddup b ∧ x ∉ ddup a) := fun z => by have := this.mpr z; cases this
      have : x ∈ ddup a := Classical.byContradiction fun z => hx' ⟨mem_ddup.mpr hx, z⟩
      simpa using mem_ddup.mp this
    · intro q
      have hr : r = [] := by
        cases r with
        | nil => rfl
        | cons y _ =>
          exfalso
          obtain ⟨g1, g2⟩ := (r3 y).mp (.head _)
          have := q y (mem_ddup.mp g1)
          exact g2 (mem_ddup.mpr (by simpa using this))
      rw [hr]; rfl
  · rw [h2 h]
    have : a.all b.contains = false := by
      rw [Bool.eq_false_iff]; intro z
      rw [List.all_eq_true] at z
      exact h fun x hx => mem_ddup.mpr (by simpa using z x (mem_ddup.mp hx))
    rw [this]; rfl
end Mine
end
section
namespace Mine
section
variable {α : Type} {e : α → α → Bool}
noncomputable def remE (e : α → α → Bool) (d : α) : List α → Option (List α)
  | [] => none
  | p :: r => if e p d then some r else (remE e d r).map (p :: ·)
noncomputable def remAllE (e : α → α → Bool) (l t : List α) : Option (List α) := l.foldl (fun acc x => acc.bind (remE e x)) (some t)
theorem remE_sub {d : α} : ∀ {l r : List α}, remE e d l = some r → ∀ x ∈ r, x ∈ l
  | [], _, h => by cases h
  | p :: l, r, h => by
    unfold remE at h
    split at h
    · cases h; exact fun x hx => .tail _ hx
    · cases q : remE e d l with
      | none => rw [q] at h; cases h
      | some r' =>
        rw [q] at h
        cases h
        intro x hx
        rcases List.mem_cons.mp hx with z | z
        · rw [z]; exact .head _
        · exact .tail _ (remE_sub q x z)
theorem remD_map {g : α → PyData × AV} {d : α} : ∀ {l : List α}, (∀ x ∈ l, PyData.eqv (g x).1 (g d).1 = e x d) → remD (g d).1 (l.map g) = (remE e d l).map (List.map g)
  | [], _ => rfl
  | p :: l, h => by
    rw [List.map_cons]
    unfold remD remE
    rw [h p (.head _)]
    split
    · rfl
    · rw [remD_map fun x hx => h x (.tail _ hx)]
      cases remE e d l <;> rfl
theorem remAll_map {g : α → PyData × AV} {S : List α} (h : ∀ x ∈ S, ∀ y ∈ S, PyData.eqv (g x).1 (g y).1 = e x y) : ∀ {l t : List α}, (∀ x ∈ l, x ∈ S) → (∀ x ∈ t, x ∈ S) → remAll (l.map g) (t.map g) = (remAllE e l t).map (List.map g)
  | [], t, _, _ => rfl
  | d :: l, t, hl, ht => by
    have e1 := remD_map (e := e) (g := g) (d := d) (l := t) fun x hx => h x (ht x hx) d (hl d (.head _))
    unfold remAll remAllE
    rw [List.map_cons, List.foldl_cons, List.foldl_cons]
    show List.foldl _ (remD (g d).1 (t.map g)) _ = Option.map _ (List.foldl _ (remE e d t) _)
    rw [e1]
    cases q : remE e d t with
    | none =>
      have : ∀ l : List α, l.foldl (fun acc x => acc.bind (remE e x)) (none : Option (List α)) = none := by
        intro l; induction l with
        | nil => rfl
        | cons x l ih => rw [List.foldl_cons]; exact ih
      rw [this]
      exact foldl_bind_none _
    | some t' => exact remAll_map h (fun x hx => hl x (.tail _ hx)) fun x hx => ht x (remE_sub q x hx)
/-- two rows by their marks -/
theorem cmpF_marks {g : α → PyData × AV} {f : α → Nat} {a b : List α} (h : ∀ x ∈ a ++ b, ∀ y ∈ a ++ b, PyData.eqv (g x).1 (g y).1 = decide (f x = f y)) : cmpF (a.map g) (b.map g) = ((a.map f).all (b.map f).contains && (b.map f).all (a.map f).contains) := by
  rw [← cmpF_ints]
  have hA := ded_wd (e := fun x y => decide (f x = f y)) (g := g) (l := a) fun x hx y hy => h x (List.mem_append_left _ hx) y (List.mem_append_left _ hy)
  have hB := ded_wd (e := fun x y => decide (f x = f y)) (g := g) (l := b) fun x hx y hy => h x (List.mem_append_right _ hx) y (List.mem_append_right _ hy)
  have hA' := ded_wd (e := fun x y => decide (f x = f y)) (g := fun x => prN (f x)) (l := a) fun x hx y hy => eqv_int _ _
  have hB' := ded_wd (e := fun x y => decide (f x = f y)) (g := fun x => prN (f x)) (l := b) fun x hx y hy => eqv_int _ _
  rw [List.map_map, List.map_map]
  unfold cmpF
  rw [show (prN ∘ f) = fun x => prN (f x) from rfl, hA, hB, hA', hB']
  have h1 := remAll_map (e := fun x y => decide (f x = f y)) (g := g) (S := a ++ b) h (l := wd (fun x y => decide (f x = f y)) a) (t := wd (fun x y => decide (f x = f y)) b) (fun x hx => List.mem_append_left _ (wd_sub x hx)) fun x hx => List.mem_append_right _ (wd_sub x hx)
  have h2 := remAll_map (e := fun x y => decide (f x = f y)) (g := fun x => prN (f x)) (S := a ++ b) (fun x _ y _ => eqv_int _ _) (l := wd (fun x y => decide (f x = f y)) a) (t := wd (fun x y => decide (f x = f y)) b) (fun x hx => List.mem_append_left _ (wd_sub x hx)) fun x hx => List.mem_append_right _ (wd_sub x hx)
  rw [h1, h2]
  cases remAllE (fun x y => decide (f x = f y)) (wd (fun x y => decide (f x = f y)) a) (wd (fun x y => decide (f x = f y)) b) with
  | none => rfl
  | some r => cases r <;> rfl
theorem sets_same {a b : List Nat} : (a.all b.contains && b.all a.contains) = true ↔ ∀ x, x ∈ a ↔ x ∈ b := by
  rw [Bool.and_eq_true, List.all_eq_true, List.all_eq_true]
  simp only [List.contains_iff_mem]
  exact ⟨fun h x => ⟨h.1 x, h.2 x⟩, fun h => ⟨fun x => (h x).mp, fun x => (h x).mpr⟩⟩
variable {f : α → Nat}
noncomputable abbrev eqM (f : α → Nat) (x y : α) : Bool := decide (f x = f y)
theorem wd_snoc (l : List α) (x : α) : wd (eqM f) (l ++ [x]) = wdStep (eqM f) (wd (eqM f) l) x := by unfold wd; rw [List.foldl_append]; rfl
theorem snoc_ind {P : List α → Prop} (h0 : P []) (h1 : ∀ xs x, P xs → P (xs ++ [x])) : ∀ xs, P xs := by
  have : ∀ ys : List α, P ys.reverse := by
    intro ys
    induction ys with
    | nil => exact h0
    | cons y ys ih => rw [List.reverse_cons]; exact h1 _ _ ih
  intro xs
  have := this xs.reverse
  rwa [List.reverse_reverse] at this
theorem wd_marks (l : List α) : ∀ m, m ∈ (wd (eqM f) l).map f ↔ m ∈ l.map f := by
  refine snoc_ind (P := fun l => ∀ m, m ∈ (wd (eqM f) l).map f ↔ m ∈ l.map f) (fun m => Iff.rfl) (fun l x ih m => ?_) l
  rw [wd_snoc, List.map_append, List.mem_append, ← ih m]
  unfold wdStep
  split
  · rename_i h
    obtain ⟨y, hy, q⟩ := List.any_eq_true.mp h
    have q := of_decide_eq_true q
    constructor
    · exact .inl
    · rintro (z | z)
      · exact z
      · simp at z; rw [z, ← q]; exact List.mem_map.mpr ⟨y, hy, rfl⟩
  · rw [List.map_append, List.mem_append]
/-- the places of the first of each mark -/
noncomputable def keepJ (f : α → Nat) (l : List α) (j : Nat) : Bool := (List.range j).all fun i => decide ((l.map f)[i]? ≠ (l.map f)[j]?)
theorem wd_idx (d : α) (l : List α) : ((List.range l.length).filter (keepJ f l)).map (fun j => l[j]?.getD d) = wd (eqM f) l := by
  refine snoc_ind (P := fun l => ((List.range l.length).filter (keepJ f l)).map (fun j => l[j]?.getD d) = wd (eqM f) l) rfl (fun l x ih => ?_) l
  rw [wd_snoc, ← ih, List.length_append, List.length_singleton, List.range_succ, List.filter_append, List.map_append]
  have e1 : ∀ j, j ∈ List.range l.length → keepJ f (l ++ [x]) j = keepJ f l j := fun j hj => by
    have hj := List.mem_range.mp hj
    unfold keepJ
    have g : ∀ i, i ≤ j → ((l ++ [x]).map f)[i]? = (l.map f)[i]? := fun i hi => by
      rw [List.map_append, List.getElem?_append_left (by rw [List.length_map]; omega)]
    rw [Bool.eq_iff_iff, List.all_eq_true, List.all_eq_true]
    constructor <;> intro h i hi
    · have := h i hi; rw [g i (by have := List.mem_range.mp hi; omega), g j (Nat.le_refl _)] at this; exact this
    · have := h i hi; rw [g i (by have := List.mem_range.mp hi; omega), g j (Nat.le_refl _)]; exact this
  rw [List.filter_congr e1]
  have e2 : ((List.range l.length).filter (keepJ f l)).map (fun j => (l ++ [x])[j]?.getD d) = ((List.range l.length).filter (keepJ f l)).map (fun j => l[j]?.getD d) :=
    List.map_congr_left fun j hj => by
      have := List.mem_range.mp (List.mem_filter.mp hj).1
      rw [List.getElem?_append_left this]
  rw [e2]
  have e3 : keepJ f (l ++ [x]) l.length = !((((List.range l.length).filter (keepJ f l)).map (fun j => l[j]?.getD d)).any fun y => eqM f y x) := by
    rw [ih]
    have hx : ((l ++ [x]).map f)[l.length]? = some (f x) := by rw [List.map_append, List.getElem?_append_right (by rw [List.length_map]; exact Nat.le_refl _), List.length_map, Nat.sub_self]; rfl
    unfold keepJ
    rw [hx, Bool.eq_iff_iff, List.all_eq_true, Bool.not_eq_true', ← Bool.not_eq_true, List.any_eq_true]
    constructor
    · rintro h ⟨y, hy, q⟩
      have : f x ∈ l.map f := (wd_marks l _).mp (List.mem_map.mpr ⟨y, hy, of_decide_eq_true q⟩)
      obtain ⟨i, hi⟩ := List.mem_iff_getElem?.mp this
      have hil : i < l.length := by have := (List.getElem?_eq_some_iff.mp hi).1; rwa [List.length_map] at this
      have := of_decide_eq_true (h i (List.mem_range.mpr hil))
      rw [List.map_append, List.getElem?_append_left (by rw [List.length_map]; exact hil)] at this
      exact this hi
    · intro h i hi
      have hil := List.mem_range.mp hi
      refine decide_eq_true fun e => h ?_
      rw [List.map_append, List.getElem?_append_left (by rw [List.length_map]; exact hil)] at e
      obtain ⟨y, hy, q⟩ := List.mem_map.mp ((wd_marks l _).mpr (List.mem_of_getElem? e))
      exact ⟨y, hy, decide_eq_true q⟩
  unfold wdStep
  cases hk : ((((List.range l.length).filter (keepJ f l)).map (fun j => l[j]?.getD d)).any fun y => eqM f y x) with
  | true => rw [hk] at e3; simp [List.filter_cons, e3]
  | false => rw [hk] at e3; simp [List.filter_cons, e3]
end
end Mine
end
section
namespace Mine
section
variable {α : Type} {D : α → PyData} {f : α → Nat}
theorem eqvAll_map : ∀ {a b : List α}, (∀ x ∈ a, ∀ y ∈ b, PyData.eqv (D x) (D y) = decide (f x = f y)) → PyData.eqvAll (a.map D) (b.map D) = decide (a.map f = b.map f)
  | [], [], _ => rfl
  | [], _ :: _, _ => rfl
  | _ :: _, [], _ => rfl
  | x :: a, y :: b, h => by
    show (PyData.eqv (D x) (D y) && PyData.eqvAll (a.map D) (b.map D)) = _
    rw [h x (.head _) y (.head _), eqvAll_map fun x hx y hy => h x (.tail _ hx) y (.tail _ hy)]
    by_cases q : f x = f y <;> by_cases r : a.map f = b.map f <;> simp [q, r]
theorem layAll_map : ∀ {l : List α}, (∀ x ∈ l, (D x).canLay0 = true) → PyData.canLayAll0 (l.map D) = true
  | [], _ => rfl
  | x :: l, h => by
    show ((D x).canLay0 && PyData.canLayAll0 (l.map D)) = true
    rw [h x (.head _), layAll_map fun y hy => h y (.tail _ hy)]; rfl
theorem depthAll_map {n : Nat} : ∀ {l : List α}, (∀ x ∈ l, (D x).depth ≤ n) → PyData.depthAll (l.map D) ≤ n
  | [], _ => Nat.zero_le _
  | x :: l, h => by
    show max (D x).depth (PyData.depthAll (l.map D)) ≤ n
    exact Nat.max_le.mpr ⟨h x (.head _), depthAll_map fun y hy => h y (.tail _ hy)⟩
theorem RDs_map {σ : Led} {A : α → AV} : ∀ {l : List α}, (∀ x ∈ l, RD σ (D x) (A x)) → RDs σ (l.map D) (l.map A)
  | [], _ => rfl
  | x :: l, h => ⟨A x, l.map A, rfl, h x (.head _), RDs_map fun y hy => h y (.tail _ hy)⟩
end
namespace L1
noncomputable abbrev wr (N : List (List Nat)) (x : Nat) : List Nat := wd (eqM (fk N 9)) (nd N x)
/-- rows and sets of the names so far -/
structure AlkP (N : List (List Nat)) (F : List Nat) (k : Nat) (ψ : Led) (A rA : Nat → Addr) (Dd : Nat → PyData) : Prop where
  row : ∀ x ∈ F.take k, ψ (rA x) = some (.list ((nd N x).map fun z => .ref (A z)))
  set : ∀ x ∈ F.take k, ∃ x0 ∈ F.take k, fk N 9 x0 = fk N 9 x ∧ Dd x = .list ((wr N x0).map Dd) ∧ ψ (A x) = some (.list ((wr N x0).map fun z => .ref (A z)))
  rd : ∀ x ∈ F.take k, RD ψ (Dd x) (.ref (A x)) ∧ (Dd x).canLay0 = true ∧ (Dd x).depth ≤ k
  eq : ∀ x ∈ F.take k, ∀ y ∈ F.take k, PyData.eqv (Dd x) (Dd y) = decide (fk N 9 x = fk N 9 y)
section
variable {N : List (List Nat)} {F : List Nat} {k : Nat} {ψ ψ' : Led} {A rA : Nat → Addr} {Dd : Nat → PyData} {x : Nat}
theorem AlkP.mono (P : AlkP N F k ψ A rA Dd) (h : ψ.le ψ') : AlkP N F k ψ' A rA Dd :=
  ⟨fun x hx => h _ _ (P.row x hx), fun x hx => let ⟨x0, h0, h1, h2, h3⟩ := P.set x hx; ⟨x0, h0, h1, h2, h _ _ h3⟩, fun x hx => ⟨(P.rd x hx).1.mono h, (P.rd x hx).2⟩, P.eq⟩
theorem Given.behind (Gv : Given N F) {y : Nat} (hy : y ∈ F.take k) : ∀ z ∈ nd N y, z ∈ F.take k := fun z hz => by
  obtain ⟨i, hi⟩ := List.mem_iff_getElem?.mp hy
  have hik : i < k := by
    have := (List.getElem?_eq_some_iff.mp hi).1
    rw [List.length_take] at this; omega
  rw [List.getElem?_take_of_lt hik] at hi
  exact List.take_subset_take_left F (Nat.le_of_lt hik) (Gv.ahead i y hi z hz)
theorem Given.new (Gv : Given N F) (hx : F[k]? = some x) : x ∉ F.take k := fun h => by
  have h1 : F.take (k + 1) = F.take k ++ [x] := by rw [List.take_add_one, hx]; rfl
  have h2 := Gv.nodup.sublist (List.take_sublist (k + 1) F)
  rw [h1, List.nodup_append] at h2
  exact h2.2.2 x h x (by simp) rfl
theorem AlkP.push {x0 a r : Nat} (Gv : Given N F) (P : AlkP N F k ψ A rA Dd) (hx : F[k]? = some x) (hle : ψ.le ψ') (hr : ψ' r = some (.list ((nd N x).map fun z => .ref (A z)))) (h0 : x0 ∈ F.take k ∨ x0 = x) (hm : fk N 9 x0 = fk N 9 x)
    (ha : ψ' a = some (.list ((wr N x0).map fun z => .ref (A z))))
    (he : ∀ z ∈ F.take k, PyData.eqv (.list ((wr N x0).map Dd)) (Dd z) = decide (fk N 9 x = fk N 9 z) ∧ PyData.eqv (Dd z) (.list ((wr N x0).map Dd)) = decide (fk N 9 z = fk N 9 x))
    (hs : PyData.eqv (.list ((wr N x0).map Dd)) (.list ((wr N x0).map Dd)) = true) :
    AlkP N F (k + 1) ψ' (fun z => if z = x then a else A z) (fun z => if z = x then r else rA z) (fun z => if z = x then .list ((wr N x0).map Dd) else Dd z) := by
  have P := P.mono hle
  have hn := Gv.new hx
  have ht : F.take (k + 1) = F.take k ++ [x] := by rw [List.take_add_one, hx]; rfl
  have mem : ∀ z, z ∈ F.take (k + 1) ↔ z ∈ F.take k ∨ z = x := fun z => by rw [ht, List.mem_append, List.mem_singleton]
  have ne : ∀ z ∈ F.take k, z ≠ x := fun z hz e => hn (e ▸ hz)
  have cA : ∀ l : List Nat, (∀ z ∈ l, z ∈ F.take k) → (l.map fun z => AV.ref (if z = x then a else A z)) = l.map fun z => .ref (A z) := fun l h => List.map_congr_left fun z hz => by rw [if_neg (ne z (h z hz))]
  have cD : ∀ l : List Nat, (∀ z ∈ l, z ∈ F.take k) → (l.map fun z => if z = x then PyData.list ((wr N x0).map Dd) else Dd z) = l.map Dd := fun l h => List.map_congr_left fun z hz => by rw [if_neg (ne z (h z hz))]
  have inr : ∀ y, y ∈ F.take k ∨ y = x → ∀ z ∈ nd N y, z ∈ F.take k := fun y hy z hz => by
    rcases hy with hy | rfl
    · exact Gv.behind hy z hz
    · exact Gv.ahead k y hx z hz
  have inw : ∀ y, y ∈ F.take k ∨ y = x → ∀ z ∈ wr N y, z ∈ F.take k := fun y hy z hz => inr y hy z (wd_sub z hz)
  refine ⟨fun y hy => ?_, fun y hy => ?_, fun y hy => ?_, fun y hy z hz => ?_⟩
  · rw [cA _ (inr y ((mem y).mp hy))]
    by_cases q : y = x
    · subst q; rw [if_pos rfl]; exact hr
    · rw [if_neg q]; exact P.row y (((mem y).mp hy).resolve_right q)
  · by_cases q : y = x
    · subst q
      refine ⟨x0, (mem x0).mpr h0, hm, ?_, ?_⟩
      · rw [if_pos rfl, cD _ (inw x0 h0)]
      · rw [if_pos rfl, cA _ (inw x0 h0)]; exact ha
    · have hy := ((mem y).mp hy).resolve_right q
      obtain ⟨y0, g0, g1, g2, g3⟩ := P.set y hy
      refine ⟨y0, (mem y0).mpr (.inl g0), g1, ?_, ?_⟩
      · rw [if_neg q, cD _ (inw y0 (.inl g0))]; exact g2
      · rw [if_neg q, cA _ (inw y0 (.inl g0))]; exact g3
  · by_cases q : y = x
    · subst q
      rw [if_pos rfl, if_pos rfl]
      refine ⟨⟨a, _, rfl, ha, RDs_map fun z hz => (P.rd z (inw x0 h0 z hz)).1⟩, layAll_map fun z hz => (P.rd z (inw x0 h0 z hz)).2.1, Nat.succ_le_succ (depthAll_map fun z hz => (P.rd z (inw x0 h0 z hz)).2.2)⟩
    · rw [if_neg q, if_neg q]
      obtain ⟨g1, g2, g3⟩ := P.rd y (((mem y).mp hy).resolve_right q)
      exact ⟨g1, g2, Nat.le_succ_of_le g3⟩
  · by_cases q : y = x <;> by_cases p : z = x
    · subst q; subst p; rw [if_pos rfl, hs]; simp
    · subst q; rw [if_pos rfl, if_neg p]; exact (he z (((mem z).mp hz).resolve_right p)).1
    · subst p; rw [if_pos rfl, if_neg q]; exact (he y (((mem y).mp hy).resolve_right q)).2
    · rw [if_neg p, if_neg q]; exact P.eq y (((mem y).mp hy).resolve_right q) z (((mem z).mp hz).resolve_right p)
/-- a name of an old mark -/
theorem AlkP.pushOld {y a r : Nat} (Gv : Given N F) (P : AlkP N F k ψ A rA Dd) (hx : F[k]? = some x) (hle : ψ.le ψ') (hr : ψ' r = some (.list ((nd N x).map fun z => .ref (A z)))) (hy : y ∈ F.take k) (hm : fk N 9 y = fk N 9 x) (ha : ψ' a = ψ (A y)) :
    ∃ Dd', AlkP N F (k + 1) ψ' (fun z => if z = x then a else A z) (fun z => if z = x then r else rA z) Dd' := by
  obtain ⟨y0, g0, g1, g2, g3⟩ := P.set y hy
  refine ⟨_, P.push Gv hx hle hr (x0 := y0) (.inl g0) (g1.trans hm) (ha.trans g3) (fun z hz => ?_) ?_⟩
  · rw [← g2, P.eq y hy z hz, P.eq z hz y hy, hm]; exact ⟨rfl, rfl⟩
  · rw [← g2, P.eq y hy y hy]; simp
/-- a name of a new mark -/
theorem AlkP.pushNew {a r : Nat} (hb : ∀ i, ∀ x ∈ nd N i, x < 9) (Gv : Given N F) (P : AlkP N F k ψ A rA Dd) (hx : F[k]? = some x) (hle : ψ.le ψ') (hr : ψ' r = some (.list ((nd N x).map fun z => .ref (A z)))) (hno : ∀ y ∈ F.take k, fk N 9 y ≠ fk N 9 x)
    (ha : ψ' a = some (.list ((wr N x).map fun z => .ref (A z)))) : ∃ Dd', AlkP N F (k + 1) ψ' (fun z => if z = x then a else A z) (fun z => if z = x then r else rA z) Dd' := by
  have inw : ∀ z ∈ wr N x, z ∈ F.take k := fun z hz => Gv.ahead k x hx z (wd_sub z hz)
  have hx9 : x < 9 := Gv.lt x (List.mem_of_getElem? hx)
  refine ⟨_, P.push Gv hx hle hr (x0 := x) (.inr rfl) rfl ha (fun z hz => ?_) ?_⟩
  · obtain ⟨z0, g0, g1, g2, g3⟩ := P.set z hz
    have inz : ∀ w ∈ wr N z0, w ∈ F.take k := fun w hw => Gv.behind g0 w (wd_sub w hw)
    have hne : (wr N x).map (fk N 9) ≠ (wr N z0).map (fk N 9) := fun e => by
      refine hno z0 g0 ((marks_is hb (Gv.lt z0 (List.mem_of_mem_take g0)) hx9).mpr fun m => ?_)
      rw [← wd_marks (f := fk N 9) (nd N z0) m, ← wd_marks (f := fk N 9) (nd N x) m]
      show m ∈ (wr N z0).map _ ↔ m ∈ (wr N x).map _
      rw [e]
    rw [g2]
    refine ⟨?_, ?_⟩
    · show PyData.eqvAll _ _ = _
      rw [eqvAll_map (f := fk N 9) fun u hu v hv => P.eq u (inw u hu) v (inz v hv), decide_eq_false hne, decide_eq_false fun e => hno z hz e.symm]
    · show PyData.eqvAll _ _ = _
      rw [eqvAll_map (f := fk N 9) fun u hu v hv => P.eq u (inz u hu) v (inw v hv), decide_eq_false (Ne.symm hne), decide_eq_false (hno z hz)]
  · show PyData.eqvAll _ _ = _
    rw [eqvAll_map (f := fk N 9) fun u hu v hv => P.eq u (inw u hu) v (inw v hv)]; simp
theorem AlkP.nil {A rA : Nat → Addr} {Dd : Nat → PyData} : AlkP N F 0 ψ A rA Dd := ⟨fun x hx => (nomatch hx), fun x hx => (nomatch hx), fun x hx => (nomatch hx), fun x hx => (nomatch hx)⟩
/-- what the project says of the rows of two names -/
theorem AlkP.cmp (hb : ∀ i, ∀ x ∈ nd N i, x < 9) (Gv : Given N F) (P : AlkP N F k ψ A rA Dd) (hx : F[k]? = some x) {y z : Nat} (hy : y ∈ F.take k ∨ y = x) (hz : z ∈ F.take k ∨ z = x) :
    cmpF ((nd N y).map fun z => (Dd z, .ref (A z))) ((nd N z).map fun z => (Dd z, .ref (A z))) = decide (fk N 9 y = fk N 9 z) := by
  have inr : ∀ u, u ∈ F.take k ∨ u = x → ∀ w ∈ nd N u, w ∈ F.take k := fun u hu w hw => by
    rcases hu with hu | hu
    · exact Gv.behind hu w hw
    · subst hu; exact Gv.ahead k u hx w hw
  have l9 : ∀ u, u ∈ F.take k ∨ u = x → u < 9 := fun u hu => by
    rcases hu with hu | hu
    · exact Gv.lt u (List.mem_of_mem_take hu)
    · subst hu; exact Gv.lt u (List.mem_of_getElem? hx)
  have ina : ∀ u ∈ nd N y ++ nd N z, u ∈ F.take k := fun u hu => by
    rcases List.mem_append.mp hu with q | q
    · exact inr y hy u q
    · exact inr z hz u q
  rw [cmpF_marks (f := fk N 9) fun u hu v hv => P.eq u (ina u hu) v (ina v hv), Bool.eq_iff_iff, sets_same, decide_eq_true_eq, marks_is hb (l9 y hy) (l9 z hz)]
  exact Iff.rfl
/-- the items of a row -/
theorem AlkP.rds (P : AlkP N F k ψ A rA Dd) (hk : k ≤ 9) {l : List Nat} (hl : ∀ z ∈ l, z ∈ F.take k) : Rds ψ (l.map fun z => (Dd z, .ref (A z))) := fun q hq => by
  obtain ⟨z, hz, rfl⟩ := List.mem_map.mp hq
  obtain ⟨g1, g2, g3⟩ := P.rd z (hl z hz)
  exact ⟨g1, g2, by show (Dd z).depth ≤ 50; omega⟩
theorem AlkP.lists (P : AlkP N F k ψ A rA Dd) {l : List Nat} (hl : ∀ z ∈ l, z ∈ F.take k) : Lists ψ (l.map fun z => (Dd z, .ref (A z))) := fun q hq => by
  obtain ⟨z, hz, rfl⟩ := List.mem_map.mp hq
  obtain ⟨x0, _, _, _, h⟩ := P.set z (hl z hz)
  exact ⟨A z, _, rfl, h⟩
/-- what is left of a row -/
theorem AlkP.ded (P : AlkP N F k ψ A rA Dd) {l : List Nat} (hl : ∀ z ∈ l, z ∈ F.take k) : (ded (l.map fun z => (Dd z, AV.ref (A z)))).map (·.2) = (wd (eqM (fk N 9)) l).map fun z => .ref (A z) := by
  rw [ded_wd (e := eqM (fk N 9)) (g := fun z => (Dd z, AV.ref (A z))) fun u hu v hv => P.eq u (hl u hu) v (hl v hv), List.map_map]; rfl
end
end L1
end Mine
end
section
namespace Mine
theorem fillL1F : (fun (_ : OpenLaw) (_ : Params → Frag) => True) PySem.Challenge.rw_nq0156_01 Mine.hd.heap_1 := by
  k_fill; trivial
theorem dec_num (a b : Nat) : decide ((iv a).key = some (PKey.num b)) = decide (a = b) := by
  rw [iv_key]
  by_cases q : a = b
  · subst q; simp
  · simp [q]; omega
theorem dget_names {f : Nat → AV} {x : Nat} : ∀ {l : List Nat}, x ∈ l → dget (l.map fun n => (iv n, f n)) (.num x) = some (f x)
  | y :: l, h => by
    unfold dget
    rw [List.map_cons, List.find?_cons]
    show Option.map _ (match decide ((iv y).key = some (PKey.num x)) with | true => _ | false => _) = _
    rw [dec_num]
    by_cases q : y = x
    · subst q; rw [decide_eq_true rfl]; rfl
    · rw [decide_eq_false q]
      exact dget_names (l := l) ((List.mem_cons.mp h).resolve_left fun e => q e.symm)
theorem dput_names {f : Nat → AV} {x : Nat} {v : AV} {l : List Nat} (h : x ∉ l) : dput (l.map fun n => (iv n, f n)) (.num x) (iv x) v = (l.map fun n => (iv n, f n)) ++ [(iv x, v)] := by
  unfold dput
  have : kidx (l.map fun n => (iv n, f n)) (.num x) = none := List.findIdx?_eq_none_iff.mpr fun e he => by
    obtain ⟨n, hn, rfl⟩ := List.mem_map.mp he
    show decide ((iv n).key = some (PKey.num x)) = false
    rw [dec_num]; exact decide_eq_false fun q => h (q ▸ hn)
  rw [this]
theorem filter_tt {α : Type} (l : List α) : l.filter (fun _ => true) = l := List.filter_eq_self.mpr fun _ _ => rfl
theorem Und.fix {ψ τ : Led} {as bs : List Addr} {a : Addr} {o : AO} (h : Und ψ τ as) (ha : τ a = some o) (hs : ∀ b ∈ bs, b ∈ as) (hn : a ∉ bs) : Und (ψ.set a o) τ bs := by
  refine ⟨h.le.put ha, fun b hb => (Led.set_ne (show b ≠ a from fun e => hn (by rw [← e]; exact hb))).trans (h.off b (hs b hb)), fun b hb => h.on b (hs b hb)⟩
theorem first_at {K : List Nat} {j : Nat} (hj : j < K.length) : ((((K.findIdx fun u => decide (u = K[j])) : Nat) : Int) == (j : Int)) = (List.range j).all fun i => decide (K[i]? ≠ K[j]?) := by
  have hlt : (K.findIdx fun u => decide (u = K[j])) < K.length := List.findIdx_lt_length_of_exists ⟨K[j], List.getElem_mem hj, by simp⟩
  have hat := List.findIdx_getElem (w := hlt)
  rw [Bool.eq_iff_iff, List.all_eq_true, beq_iff_eq]
  constructor
  · intro e i hi
    have hij := List.mem_range.mp hi
    have e' : (K.findIdx fun u => decide (u = K[j])) = j := by omega
    have := List.not_of_lt_findIdx (p := fun u => decide (u = K[j])) (xs := K) (i := i) (by omega)
    refine decide_eq_true fun q => ?_
    rw [List.getElem?_eq_getElem (by omega), List.getElem?_eq_getElem hj] at q
    have q := Option.some.inj q
    simp [q] at this
  · intro h
    have h1 : ¬ (K.findIdx fun u => decide (u = K[j])) < j := fun q => by
      have := of_decide_eq_true (h _ (List.mem_range.mpr q))
      rw [List.getElem?_eq_getElem hlt, List.getElem?_eq_getElem hj] at this
      exact this (congrArg some (of_decide_eq_true hat))
    have h2 : ¬ j < (K.findIdx fun u => decide (u = K[j])) := fun q => by
      have := List.not_of_lt_findIdx q
      simp at this
    omega
theorem wd_len {α : Type} {e : α → α → Bool} (l : List α) : (wd e l).length ≤ l.length := by
  have key : ∀ (l acc : List α), (l.foldl (wdStep e) acc).length ≤ acc.length + l.length := by
    intro l
    induction l with
    | nil => intro acc; simp
    | cons x l ih =>
      intro acc
      have h1 := ih (wdStep e acc x)
      have h2 : (wdStep e acc x).length ≤ acc.length + 1 := by unfold wdStep; split <;> simp
      simp only [List.foldl_cons, List.length_cons]; omega
  have := key l []
  simpa [wd] using this
theorem Rds_ints (σ : Led) (l : List Nat) : Rds σ (l.map prN) := fun q hq => by
  obtain ⟨n, _, rfl⟩ := List.mem_map.mp hq
  exact ⟨rfl, rfl, Nat.zero_le _⟩
theorem map_prN (l : List Nat) : (l.map prN).map (·.2) = l.map iv := by rw [List.map_map]; rfl
namespace L1
/-- what stands in the midst of a turn -/
structure AlkT (N : List (List Nat)) (F : List Nat) (σ : Led) (L pm ps pr r : Addr) (k x ep : Nat) (A rA : Nat → Addr) (Dd : Nat → PyData) (v5 : Option AV) (ψ τ : Led) : Prop where
  U : Und ψ τ [pr, ps, L + 3, L + 4, L + 5]
  le : σ.le ψ
  c1 : ψ (L + 1) = some (.cell (some (.ref pm)))
  c2 : ψ (L + 2) = some (.cell (some (.ref ps)))
  e3 : τ (L + 3) = some (.cell (some (iv x)))
  e4 : τ (L + 4) = some (.cell (some (.ref r)))
  e5 : τ (L + 5) = some (.cell v5)
  er : τ pr = some (.list ((F.take k).map fun x => .ref (rA x)))
  es : τ ps = some (.dict ((F.take k).map fun x => (iv x, .ref (A x))) ep)
  P : AlkP N F k ψ A rA Dd
  hr : ψ r = some (.list ((nd N x).map fun z => .ref (A z)))
theorem AlkT.new {N : List (List Nat)} {F : List Nat} {σ : Led} {L pm ps pr r : Addr} {k x ep : Nat} {A rA : Nat → Addr} {Dd : Nat → PyData} {v5 : Option AV} {ψ τ : Led} {a : Addr} {o : AO} (T : AlkT N F σ L pm ps pr r k x ep A rA Dd v5 ψ τ) (ha : τ a = none) : AlkT N F σ L pm ps pr r k x ep A rA Dd v5 (ψ.set a o) (τ.set a o) :=
  have p := Led.le_set (o := o) (T.U.none ha)
  ⟨T.U.new ha, T.le.trans p, p _ _ T.c1, p _ _ T.c2, Led.set_old T.e3 ha, Led.set_old T.e4 ha, Led.set_old T.e5 ha, Led.set_old T.er ha, Led.set_old T.es ha, T.P.mono p, p _ _ T.hr⟩
set_option maxHeartbeats 1000000 in
/-- list(_deduplicate(p, unhashable_fallback=True)), p of lists -/
theorem weedL {c : Cx} {E : Value → Loc → Led → Prop} {m : Loc} {σ : Led} {Q : Value → Loc → Led → Prop} {p : Addr} {l : List (PyData × AV)} (G : Good Mine.hd.heap_1 4 c) (hh : c.A.handled = none)
    (hp : σ p = some (.list (l.map (·.2)))) (hl : Rds σ l) (hz : l.length ≤ 1000) (hls : Lists σ l) (h : ∀ a, σ a = none → Q (.ref a) m (σ.set a (.list ((ded l).map (·.2))))) :
    W c (call (.ref 29) [.ref p] [("unhashable_fallback", .bool true)]) (fun v m σ => W c (call (.type "list") [v]) Q E m σ) E m σ := by
  have hsz : 1000000 ≤ sizeLine := by decide
  refine dedT G hh hp hl (by omega) hls (fun e a ep ha => ?_) fun e a τ le ha => ?_
  · subst e
    exact W_keep (W_listDict G hh Led.set_self (by decide) fun b hb => ⟨σ.set b (.list []), (Led.le_set ha).set2, h b ((Led.le_set ha).none hb)⟩)
  · have := ded_length l
    exact W_keep (W_listCopy (.inl Led.set_self) (by rw [List.length_map]; omega) fun b hb => ⟨σ.set b (.list ((ded l).map (·.2))), (le.trans (Led.le_set ha)).set2, h b ((le.trans (Led.le_set ha)).none hb)⟩)
/-- between the turns -/
inductive AlkI (N : List (List Nat)) (F : List Nat) (σ : Led) (L pn pf pm ps pr : Addr) (k : Nat) (m' : Loc) (τ : Led) : Prop
  | mk (h1 : m' "members" = some (.ref pn)) (h2 : m' "given" = some (.ref pf)) (h3 : m' "rows" = some (.ref pr)) (ψ : Led) (A rA : Nat → Addr) (Dd : Nat → PyData) (v3 v4 v5 : Option AV) (ep : Nat)
    (U : Und ψ τ [pr, ps, L + 3, L + 4, L + 5]) (le : σ.le ψ) (c1 : ψ (L + 1) = some (.cell (some (.ref pm)))) (c2 : ψ (L + 2) = some (.cell (some (.ref ps)))) (c3 : τ (L + 3) = some (.cell v3)) (c4 : τ (L + 4) = some (.cell v4)) (c5 : τ (L + 5) = some (.cell v5))
    (hr : τ pr = some (.list ((F.take k).map fun x => .ref (rA x)))) (hs : τ ps = some (.dict ((F.take k).map fun x => (iv x, .ref (A x))) ep)) (P : AlkP N F k ψ A rA Dd) : AlkI N F σ L pn pf pm ps pr k m' τ
set_option maxRecDepth 100000 in
set_option maxHeartbeats 4000000 in
theorem lawAlike {c : Cx} {E : Value → Loc → Led → Prop} {m : Loc} {σ : Led} {Q : Value → Loc → Led → Prop} {pn pf pm : Addr} {N : List (List Nat)} {F : List Nat} (G : Good Mine.hd.heap_1 8 c) (hh : c.A.handled = none)
    (hN : RD σ (dII N) (.ref pn)) (h9 : N.length = 9) (hz : ∀ i, (nd N i).length ≤ 3) (hb : ∀ i, ∀ x ∈ nd N i, x < 9) (Gv : Given N F) (hF : σ pf = some (AI F)) (hM : σ pm = some (AI (marksK N 9))) (h : Q (.bool true) m σ) : W c (call (.ref 202) [.ref pn, .ref pf, .ref pm]) Q E m σ := by
  have hsz : 1000000 ≤ sizeLine := by decide
  have hF9 := Gv.le
  refine W_keep (W_fnC [("members", .ref pn), ("given", .ref pf), ("marks", .ref pm)] G (by k_is) (by k_is) (by rfl) (by rfl) fun L hL G1 => ?_)
  show W _ _ _ _ _ (((((σ.set (L + 1) (.cell (some (.ref pm)))).set (L + 2) (.cell none)).set (L + 3) (.cell none)).set (L + 4) (.cell none)).set (L + 5) (.cell none))
  have n : ∀ i, σ (L + i) = none := fun i => hL _ (Nat.le_add_right _ _)
  have e2 : (σ.set (L + 1) (.cell (some (.ref pm)))) (L + 2) = none := (Led.set_ne (Ane (by decide))).trans (n 2)
  have e3 : ((σ.set (L + 1) (.cell (some (.ref pm)))).set (L + 2) (.cell none)) (L + 3) = none := (Led.set_ne (Ane (by decide))).trans ((Led.set_ne (Ane (by decide))).trans (n 3))
  have e4 : (((σ.set (L + 1) (.cell (some (.ref pm)))).set (L + 2) (.cell none)).set (L + 3) (.cell none)) (L + 4) = none := (Led.set_ne (Ane (by decide))).trans ((Led.set_ne (Ane (by decide))).trans ((Led.set_ne (Ane (by decide))).trans (n 4)))
  have e5 : ((((σ.set (L + 1) (.cell (some (.ref pm)))).set (L + 2) (.cell none)).set (L + 3) (.cell none)).set (L + 4) (.cell none)) (L + 5) = none := (Led.set_ne (Ane (by decide))).trans ((Led.set_ne (Ane (by decide))).trans ((Led.set_ne (Ane (by decide))).trans ((Led.set_ne (Ane (by decide))).trans (n 5))))
  have U0 := ((((Und.refl (σ.set (L + 1) (.cell (some (.ref pm))))).add (o := .cell none) e2).add (o := .cell none) e3).add (o := .cell none) e4).add (o := .cell none) e5
  have d5 : (((((σ.set (L + 1) (.cell (some (.ref pm)))).set (L + 2) (.cell none)).set (L + 3) (.cell none)).set (L + 4) (.cell none)).set (L + 5) (.cell none)) (L + 5) = some (.cell none) := Led.set_self
  have d4 : (((((σ.set (L + 1) (.cell (some (.ref pm)))).set (L + 2) (.cell none)).set (L + 3) (.cell none)).set (L + 4) (.cell none)).set (L + 5) (.cell none)) (L + 4) = some (.cell none) := Led.set_old Led.set_self e5
  have d3 : (((((σ.set (L + 1) (.cell (some (.ref pm)))).set (L + 2) (.cell none)).set (L + 3) (.cell none)).set (L + 4) (.cell none)).set (L + 5) (.cell none)) (L + 3) = some (.cell none) := Led.set_old (Led.set_old Led.set_self e4) e5
  have d2 : (((((σ.set (L + 1) (.cell (some (.ref pm)))).set (L + 2) (.cell none)).set (L + 3) (.cell none)).set (L + 4) (.cell none)).set (L + 5) (.cell none)) (L + 2) = some (.cell none) := Led.set_old (Led.set_old (Led.set_old Led.set_self e3) e4) e5
  have le0 := Led.le_set (o := .cell (some (.ref pm))) (n 1)
  have c10 : (σ.set (L + 1) (.cell (some (.ref pm)))) (L + 1) = some (.cell (some (.ref pm))) := Led.set_self
  generalize (((((σ.set (L + 1) (.cell (some (.ref pm)))).set (L + 2) (.cell none)).set (L + 3) (.cell none)).set (L + 4) (.cell none)).set (L + 5) (.cell none)) = τ₀ at U0 d5 d4 d3 d2 ⊢
  generalize (σ.set (L + 1) (.cell (some (.ref pm)))) = ψ₀ at U0 le0 c10
  clear e2 e3 e4 e5
  -- rows = [], sets = {}
  refine W_execs_cons (W_Assign_Name (W_List (W_items_nil (W_newList fun pr hpr => W_storeLocal rfl ?_))))
  refine W_execs_cons (W_Assign_Cell (by rfl) (W_newDict fun ps hps => ⟨⟨_, Led.set_old (Led.set_old d2 hpr) hps⟩, ?_⟩))
  have U1 := ((U0.add (o := .list (List.map er [])) hpr).add (o := .dict [] 0) hps).upd (a := L + 2) (o := .cell (some (.ref ps)))
  have np2 : pr ≠ L + 2 := fun e => by rw [e, d2] at hpr; cases hpr
  have nps : pr ≠ ps := ne_of_led Led.set_self hps
  have ns2 : ps ≠ L + 2 := fun e => by rw [e, Led.set_old d2 hpr] at hps; cases hps
  have g2 : (((τ₀.set pr (.list (List.map er []))).set ps (.dict [] 0)).set (L + 2) (.cell (some (.ref ps)))) (L + 2) = some (.cell (some (.ref ps))) := Led.set_self
  have g3 : (((τ₀.set pr (.list (List.map er []))).set ps (.dict [] 0)).set (L + 2) (.cell (some (.ref ps)))) (L + 3) = some (.cell none) := (Led.set_ne (Ane (by decide))).trans (Led.set_old (Led.set_old d3 hpr) hps)
  have g4 : (((τ₀.set pr (.list (List.map er []))).set ps (.dict [] 0)).set (L + 2) (.cell (some (.ref ps)))) (L + 4) = some (.cell none) := (Led.set_ne (Ane (by decide))).trans (Led.set_old (Led.set_old d4 hpr) hps)
  have g5 : (((τ₀.set pr (.list (List.map er []))).set ps (.dict [] 0)).set (L + 2) (.cell (some (.ref ps)))) (L + 5) = some (.cell none) := (Led.set_ne (Ane (by decide))).trans (Led.set_old (Led.set_old d5 hpr) hps)
  have gr : (((τ₀.set pr (.list (List.map er []))).set ps (.dict [] 0)).set (L + 2) (.cell (some (.ref ps)))) pr = some (.list []) := (Led.set_ne np2).trans (Led.set_old Led.set_self hps)
  have gs : (((τ₀.set pr (.list (List.map er []))).set ps (.dict [] 0)).set (L + 2) (.cell (some (.ref ps)))) ps = some (.dict [] 0) := (Led.set_ne ns2).trans Led.set_self
  have U2 := U1.fix (bs := [pr, ps, L + 3, L + 4, L + 5]) g2 (by simp) (by
    simp only [List.mem_cons, List.not_mem_nil, or_false, not_or]
    exact ⟨Ne.symm np2, Ne.symm ns2, Ane (by decide), Ane (by decide), Ane (by decide)⟩)
  have l2 : ψ₀.le (ψ₀.set (L + 2) (.cell (some (.ref ps)))) := Led.le_set (U0.off _ (by simp))
  show W _ _ _ _ _ (((τ₀.set pr (.list (List.map er []))).set ps (.dict [] 0)).set (L + 2) (.cell (some (.ref ps))))
  generalize (((τ₀.set pr (.list (List.map er []))).set ps (.dict [] 0)).set (L + 2) (.cell (some (.ref ps)))) = τ₁ at U2 g3 g4 g5 gr gs ⊢
  have c11 := l2 _ _ c10
  have c21 : (ψ₀.set (L + 2) (.cell (some (.ref ps)))) (L + 2) = some (.cell (some (.ref ps))) := Led.set_self
  have le1 := le0.trans l2
  generalize (ψ₀.set (L + 2) (.cell (some (.ref ps)))) = ψ₁ at U2 c11 c21 le1
  clear U0 U1 d2 d3 d4 d5 g2 hpr hps np2 ns2 l2 le0 c10
  have leτ := le1.trans U2.le
  -- the names
  refine W_execs_cons (W_For_range G1.ok hh rfl (W_bcall G1 (by k_is) boot_range (W_arg1 (W_bcall G1 (by k_is) PySem.boot_len (W_arg1 (W_lr rfl (by rfl) (W_len (xs := F.map iv) (.inl (leτ _ _ hF)) (by rw [List.length_map]; omega) fun t => W_range1 fun r hr => ?_)))))))
  rw [List.length_map]
  refine ⟨r, 0, F.length, 1, F.length, τ₁, AlkI N F σ L pn pf pm ps pr, rfl, Led.set_self, small_one (by omega) (by omega) (by omega) (by omega), by rw [rangeSize_one]; split <;> omega, Led.le_set hr, ⟨by rfl, by rfl, by rfl, ψ₁, fun _ => 0, fun _ => 0, fun _ => .none, none, none, none, 0, U2, le1, c11, c21, g3, g4, g5, gr, gs, AlkP.nil⟩, fun k t m' τ hk hI => ?_, fun m' τ hI => ?_⟩
  rotate_left
  · obtain ⟨hm1, hm2, hm3, ψ, A, rA, Dd, v3, v4, v5, ep, U, le, c1, c2, c3, c4, c5, hr, hs, P⟩ := hI
    exact W_execs_cons (W_Return (W_constBool ⟨σ, le.trans U.le, h⟩))
  obtain ⟨hm1, hm2, hm3, ψ, A, rA, Dd, v3, v4, v5, ep, U, le, c1, c2, c3, c4, c5, hr, hs, P⟩ := hI
  rw [show (0 : Int) + 1 * (k : Nat) = (k : Nat) by omega]
  obtain ⟨x, hx⟩ : ∃ x, F[k]? = some x := ⟨F[k], List.getElem?_eq_getElem hk⟩
  have hxk : F[k] = x := (List.getElem_eq_iff hk).mpr hx
  have hx9 : x < 9 := Gv.lt x (List.mem_of_getElem? hx)
  have hxn := Gv.new hx
  have hah := Gv.ahead k x hx
  have hz3 := hz x
  have hfl : (F.take k).length = k := by rw [List.length_take]; omega
  have leσ := le.trans U.le
  have mkl : (marksK N 9).length = 9 := marksK_len 9
  have mkg : ∀ z, z < 9 → ∀ (q : z < (marksK N 9).length), (marksK N 9)[z] = fk N 9 z := fun z _ q => by
    show _ = mkOf (marksK N 9) z
    unfold mkOf; rw [List.getElem?_eq_getElem q]; rfl
  refine W_assignName (W_storeLocal rfl ?_)
  -- name = given[k]
  refine W_execs_cons (W_Assign_Cell (by rfl) (W_Subscript (W_lr rfl (by exact hm2) (W_li rfl (by rfl) fun t => W_itemI (leσ _ _ hF) hk (by omega) fun t => ⟨⟨_, c3⟩, ?_⟩))))
  rw [hxk]
  have hpr3 : pr ≠ L + 3 := fun e => by rw [e, c3] at hr; cases hr
  have hpr4 : pr ≠ L + 4 := fun e => by rw [e, c4] at hr; cases hr
  have hpr5 : pr ≠ L + 5 := fun e => by rw [e, c5] at hr; cases hr
  have hps3 : ps ≠ L + 3 := fun e => by rw [e, c3] at hs; cases hs
  have hps4 : ps ≠ L + 4 := fun e => by rw [e, c4] at hs; cases hs
  have hps5 : ps ≠ L + 5 := fun e => by rw [e, c5] at hs; cases hs
  have U1 := U.upd (a := L + 3) (o := .cell (some (iv x)))
  have a3 : (τ.set (L + 3) (.cell (some (iv x)))) (L + 3) = some (.cell (some (iv x))) := Led.set_self
  have a4 : (τ.set (L + 3) (.cell (some (iv x)))) (L + 4) = some (.cell v4) := (Led.set_ne (Ane (by decide))).trans c4
  have a5 : (τ.set (L + 3) (.cell (some (iv x)))) (L + 5) = some (.cell v5) := (Led.set_ne (Ane (by decide))).trans c5
  have ar : (τ.set (L + 3) (.cell (some (iv x)))) pr = _ := (Led.set_ne hpr3).trans hr
  have as : (τ.set (L + 3) (.cell (some (iv x)))) ps = _ := (Led.set_ne hps3).trans hs
  show W _ _ _ _ _ (τ.set (L + 3) (.cell (some (iv x))))
  generalize (τ.set (L + 3) (.cell (some (iv x)))) = τ₂ at U1 a3 a4 a5 ar as ⊢
  clear c3 c4 c5 hr hs U leσ
  have leσ := le.trans U1.le
  -- row
  refine W_execs_cons (W_Assign_Cell (by rfl) (W_ListComp (by rfl) (W_Subscript (W_lr rfl (by exact hm1) (W_ci (by rfl) a3 fun t => W_itemII (hN.mono leσ) (by omega) (by omega) fun b hb' => ?_)))))
  rw [nd_get] at hb'
  refine W_itL (nd N x) iv (fun _ => true) (fun z => AV.ref (A z)) (by exact hh) hb' (by omega) (fun C z v m'' hz' hv => ?_) (fun r hr => ⟨⟨_, Led.set_old a4 hr⟩, ?_⟩)
  · obtain ⟨t, rfl⟩ := er_int hv
    refine W_assignName (W_storeLocal rfl (W_tests_nil ⟨rfl, ?_⟩))
    rw [if_pos rfl]
    exact W_Subscript (W_cr (by rfl) (U1.le _ _ c2) (W_li rfl (by rfl) fun t => W_itemDict as (k := .num z) rfl (dget_names (hah z hz')) fun v hv => ⟨hv, Led.le.refl _⟩))
  rw [filter_tt]
  have U2 := (U1.new (o := .list ((nd N x).map fun z => .ref (A z))) hr).upd (a := L + 4) (o := .cell (some (.ref r)))
  have p2 := Led.le_set (o := .list ((nd N x).map fun z => .ref (A z))) (U1.none hr)
  have P2 := P.mono p2
  have r2 : (ψ.set r (.list ((nd N x).map fun z => .ref (A z)))) r = _ := Led.set_self
  have b3 : ((τ₂.set r (.list ((nd N x).map fun z => .ref (A z)))).set (L + 4) (.cell (some (.ref r)))) (L + 3) = _ := (Led.set_ne (Ane (by decide))).trans (Led.set_old a3 hr)
  have b4 : ((τ₂.set r (.list ((nd N x).map fun z => .ref (A z)))).set (L + 4) (.cell (some (.ref r)))) (L + 4) = some (.cell (some (.ref r))) := Led.set_self
  have b5 : ((τ₂.set r (.list ((nd N x).map fun z => .ref (A z)))).set (L + 4) (.cell (some (.ref r)))) (L + 5) = _ := (Led.set_ne (Ane (by decide))).trans (Led.set_old a5 hr)
  have br : ((τ₂.set r (.list ((nd N x).map fun z => .ref (A z)))).set (L + 4) (.cell (some (.ref r)))) pr = _ := (Led.set_ne hpr4).trans (Led.set_old ar hr)
  have bs : ((τ₂.set r (.list ((nd N x).map fun z => .ref (A z)))).set (L + 4) (.cell (some (.ref r)))) ps = _ := (Led.set_ne hps4).trans (Led.set_old as hr)
  show W _ _ _ _ _ ((τ₂.set r (.list ((nd N x).map fun z => .ref (A z)))).set (L + 4) (.cell (some (.ref r))))
  generalize ((τ₂.set r (.list ((nd N x).map fun z => .ref (A z)))).set (L + 4) (.cell (some (.ref r)))) = τ₃ at U2 b3 b4 b5 br bs ⊢
  have c12 := p2 _ _ c1
  have c22 := p2 _ _ c2
  have le2 := le.trans p2
  generalize (ψ.set r (.list ((nd N x).map fun z => .ref (A z)))) = ψ₂ at U2 P2 r2 c12 c22 le2
  clear U1 a3 a4 a5 ar as leσ c1 c2 P p2 le hr hb'
  have leσ := le2.trans U2.le
  -- kinds
  refine W_execs_cons (W_Assign_Cell (by rfl) (W_ListComp (by rfl) (W_Subscript (W_lr rfl (by exact hm1) (W_ci (by rfl) b3 fun t => W_itemII (hN.mono leσ) (by omega) (by omega) fun b hb' => ?_)))))
  rw [nd_get] at hb'
  refine W_itL (nd N x) iv (fun _ => true) (fun z => iv (fk N 9 z)) (by exact hh) hb' (by omega) (fun C z v m'' hz' hv => ?_) (fun q hq => ⟨⟨_, Led.set_old b5 hq⟩, ?_⟩)
  · obtain ⟨t, rfl⟩ := er_int hv
    refine W_assignName (W_storeLocal rfl (W_tests_nil ⟨rfl, ?_⟩))
    rw [if_pos rfl]
    have hz9 := hb x z hz'
    exact W_Subscript (W_cr (by rfl) (U2.le _ _ c12) (W_li rfl (by rfl) fun t => W_itemI (leσ _ _ hM) (by rw [mkl]; exact hz9) (by rw [mkl]; decide) fun t => ⟨congrArg iv (mkg z hz9 _), Led.le.refl _⟩))
  have eK : AO.list (((nd N x).filter fun _ => true).map fun z => iv (fk N 9 z)) = AI ((nd N x).map (fk N 9)) := by rw [filter_tt, AI, List.map_map]; rfl
  rw [eK]
  have U3 := (U2.new (o := AI ((nd N x).map (fk N 9))) hq).upd (a := L + 5) (o := .cell (some (.ref q)))
  have p3 := Led.le_set (o := AI ((nd N x).map (fk N 9))) (U2.none hq)
  have P3 := P2.mono p3
  have r3 := p3 _ _ r2
  have q3 : (ψ₂.set q (AI ((nd N x).map (fk N 9)))) q = _ := Led.set_self
  have d3 : ((τ₃.set q (AI ((nd N x).map (fk N 9)))).set (L + 5) (.cell (some (.ref q)))) (L + 3) = _ := (Led.set_ne (Ane (by decide))).trans (Led.set_old b3 hq)
  have d4 : ((τ₃.set q (AI ((nd N x).map (fk N 9)))).set (L + 5) (.cell (some (.ref q)))) (L + 4) = _ := (Led.set_ne (Ane (by decide))).trans (Led.set_old b4 hq)
  have d5 : ((τ₃.set q (AI ((nd N x).map (fk N 9)))).set (L + 5) (.cell (some (.ref q)))) (L + 5) = some (.cell (some (.ref q))) := Led.set_self
  have dr : ((τ₃.set q (AI ((nd N x).map (fk N 9)))).set (L + 5) (.cell (some (.ref q)))) pr = _ := (Led.set_ne hpr5).trans (Led.set_old br hq)
  have ds : ((τ₃.set q (AI ((nd N x).map (fk N 9)))).set (L + 5) (.cell (some (.ref q)))) ps = _ := (Led.set_ne hps5).trans (Led.set_old bs hq)
  show W _ _ _ _ _ ((τ₃.set q (AI ((nd N x).map (fk N 9)))).set (L + 5) (.cell (some (.ref q))))
  generalize ((τ₃.set q (AI ((nd N x).map (fk N 9)))).set (L + 5) (.cell (some (.ref q)))) = τ₄ at U3 d3 d4 d5 dr ds ⊢
  have c13 := p3 _ _ c12
  have c23 := p3 _ _ c22
  have le3 := le2.trans p3
  generalize (ψ₂.set q (AI ((nd N x).map (fk N 9)))) = ψ₃ at U3 P3 r3 q3 c13 c23 le3
  clear U2 b3 b4 b5 br bs leσ c12 c22 P2 p3 le2 hq hb' r2 eK
  -- weeded
  have em : ((nd N x).map fun z => (Dd z, AV.ref (A z))).map (·.2) = (nd N x).map fun z => AV.ref (A z) := by rw [List.map_map]; rfl
  refine W_execs_cons (W_Assign_Name (W_bcall G1 (by k_is) boot_list (W_arg1 (W_gcallKw G1 (by k_is) (by k_is) (W_cr (by rfl) d4 (W_constBool ?_))))))
  refine weedL (l := (nd N x).map fun z => (Dd z, AV.ref (A z))) (G1.le (by decide)) hh (by rw [em]; exact U3.le _ _ r3) ((P3.rds (by omega) hah).mono U3.le) (by rw [List.length_map]; omega) ?_ fun w hw => W_storeLocal rfl ?_
  · exact fun y hy => let ⟨a, b, h1, h2⟩ := P3.lists hah y hy; ⟨a, b, h1, U3.le _ _ h2⟩
  rw [P3.ded hah]
  have U4 := U3.new (o := .list ((wr N x).map fun z => .ref (A z))) hw
  have p4 := Led.le_set (o := .list ((wr N x).map fun z => .ref (A z))) (U3.none hw)
  have P4 := P3.mono p4
  have r4 := p4 _ _ r3
  have q4 := p4 _ _ q3
  have w4 : (ψ₃.set w (.list ((wr N x).map fun z => .ref (A z)))) w = _ := Led.set_self
  have e3 := Led.set_old (o := .list ((wr N x).map fun z => .ref (A z))) d3 hw
  have e4 := Led.set_old (o := .list ((wr N x).map fun z => .ref (A z))) d4 hw
  have e5 := Led.set_old (o := .list ((wr N x).map fun z => .ref (A z))) d5 hw
  have erw := Led.set_old (o := .list ((wr N x).map fun z => .ref (A z))) dr hw
  have es := Led.set_old (o := .list ((wr N x).map fun z => .ref (A z))) ds hw
  generalize (τ₄.set w (.list ((wr N x).map fun z => .ref (A z)))) = τ₅ at U4 e3 e4 e5 erw es ⊢
  have c14 := p4 _ _ c13
  have c24 := p4 _ _ c23
  have le4 := le3.trans p4
  generalize (ψ₃.set w (.list ((wr N x).map fun z => .ref (A z)))) = ψ₄ at U4 P4 r4 q4 w4 c14 c24 le4
  clear U3 d3 d4 d5 dr ds c13 c23 P3 p4 le3 hw r3 q3 em
  -- weeded is what is due
  refine W_execs_cons (W_If (W_isTrue_Not (W_isTrue (W_gcall G1 (by k_is) (by k_is) (W_arg2 (W_lr rfl (by rfl) (W_ListComp (by rfl) (W_bcall G1 (by k_is) boot_range (W_arg1 (W_bcall G1 (by k_is) PySem.boot_len (W_arg1 (W_cr (by rfl) e4 (W_len (xs := (nd N x).map fun z => .ref (A z)) (.inl (U4.le _ _ r4)) (by rw [List.length_map]; omega) fun t => W_range1 fun rr hrr => ?_)))))))))))))
  rw [List.length_map]
  refine W_itR (a := 0) (b := (nd N x).length) (st := 1) (k := (nd N x).length) (τ := τ₅) (keepJ (fk N 9) (nd N x)) (fun j => AV.ref (A ((nd N x)[j]?.getD 0))) (by exact hh) Led.set_self (small_one (by omega) (by omega) (by omega) (by omega)) (by rw [rangeSize_one]; split <;> omega) (by omega) (Led.le_set hrr) (fun C j t m' hj => ?_) fun a ha => ?_
  · rw [show (0 : Int) + 1 * (j : Nat) = (j : Nat) by omega]
    have hjK : j < ((nd N x).map (fk N 9)).length := by rw [List.length_map]; exact hj
    have hfi : (((nd N x).map (fk N 9)).findIdx fun u => decide (u = ((nd N x).map (fk N 9))[j])) < ((nd N x).map (fk N 9)).length := List.findIdx_lt_length_of_exists ⟨_, List.getElem_mem hjK, by simp⟩
    refine W_assignName (W_storeLocal rfl (W_tests_one (W_isTrue_Compare (W_Compare (W_CallMethod (W_cr (by rfl) e5 ?_))))))
    refine W_getMethod_list PySem.F.slot_list_index PySem.F.type_list_index (U4.le _ _ q4) ?_
    refine W_callWithB (by intro a h; cases h) (W_arg1 (W_Subscript (W_cr (by rfl) e5 (W_li rfl (by rfl) fun t => W_itemI (U4.le _ _ q4) hjK (by rw [List.length_map]; omega) fun t => ?_))))
    refine W_index (ys := ((nd N x).map (fk N 9)).map prN) (d := .int ((((nd N x).map (fk N 9))[j] : Nat) : Int)) (j := ((nd N x).map (fk N 9)).findIdx fun u => decide (u = ((nd N x).map (fk N 9))[j])) (G1.comp.unit (k := 60) (by decide)) (by rw [map_prN]; exact U4.le _ _ q4) (Rds_ints _ _) rfl rfl (Nat.zero_le _) (by rw [List.length_map, List.length_map]; omega) (by rw [List.length_map]; exact hfi) ?_ (fun i' hi' hlt => ?_) fun t => W_li rfl (by rfl) fun t => W_eqInt (W_truthyBool ⟨first_at hjK, ?_⟩)
    · rw [List.getElem_map]
      show PyData.eqv (.int _) (.int _) = true
      rw [eqv_int]; exact List.findIdx_getElem (w := hfi)
    · rw [List.getElem_map]
      show PyData.eqv (.int _) (.int _) = false
      rw [eqv_int]; exact List.not_of_lt_findIdx hlt
    · rw [first_at hjK]
      split
      · exact W_Subscript (W_cr (by rfl) e4 (W_li rfl (by rfl) fun t => W_item (x := .ref (A ((nd N x)[j]?.getD 0))) (U4.le _ _ r4) (by omega) (by simp [List.getElem?_eq_getElem hj]) (by rw [List.length_map]; omega) fun v hv => ⟨hv, Led.le.refl _⟩))
      · exact Led.le.refl _
  have eW : ((List.range (nd N x).length).filter (keepJ (fk N 9) (nd N x))).map (fun j => AV.ref (A ((nd N x)[j]?.getD 0))) = (wr N x).map fun z => .ref (A z) := by
    have := congrArg (List.map fun z => AV.ref (A z)) (wd_idx (f := fk N 9) 0 (nd N x))
    rw [List.map_map] at this
    exact this
  rw [eW]
  have hwl : ((wr N x).map fun z => AV.ref (A z)).length ≤ 1000 := by
    rw [← eW, List.length_map]
    have := List.length_filter_le (keepJ (fk N 9) (nd N x)) (List.range (nd N x).length)
    rw [List.length_range] at this; omega
  refine lawSame (xs := (wr N x).map fun z => .ref (A z)) (G1.le (by decide)) hh (Led.set_old (U4.le _ _ w4) ha) Led.set_self (fun y hy => by obtain ⟨z, _, rfl⟩ := List.mem_map.mp hy; exact .inr ⟨_, rfl⟩) hwl (W_truthyBool ?_)
  refine W_execs_nil (W_shrink (σ' := τ₅) (Led.le_set ha) ?_)
  have T4 : AlkT N F σ L pm ps pr r k x ep A rA Dd _ ψ₄ τ₅ := ⟨U4, le4, c14, c24, e3, e4, e5, erw, es, P4, r4⟩
  clear U4 le4 c14 c24 e3 e4 e5 erw es P4 r4 q4 eW ha hrr
  have fin9 : ∀ z ∈ F.take k, z < 9 := fun z hz => Gv.lt z (List.mem_of_mem_take hz)
  -- due
  refine W_execs_cons (W_Assign_ListComp rfl (by rfl) (W_slice (W_lr rfl (by exact hm2) (W_evalNone ?_))))
  show W _ (eval _ _) _ _ _ _
  refine W_li rfl (by rfl) fun t => ⟨pf, F.map iv, none, some ((k : Nat) : Int), rfl, .inl (T4.U.le _ _ (T4.le _ _ hF)), .none, .int _ _, by rw [List.length_map]; omega, fun s5 hs5 => ?_⟩
  rw [pickA_to, ← List.map_take]
  refine W_itL (F.take k) iv (fun _ => true) (fun z => AV.bool (decide (fk N 9 z = fk N 9 x))) (by exact hh) Led.set_self (by omega) (fun C z v m'' hz' hv => ?_) fun u hu => ?_
  · obtain ⟨t, rfl⟩ := er_int hv
    refine W_assignName (W_storeLocal rfl (W_tests_nil ⟨rfl, ?_⟩))
    rw [if_pos rfl]
    have hz9 := fin9 z hz'
    have sle := Led.le_set (o := .list ((F.take k).map iv)) hs5
    have hMs := sle _ _ (T4.U.le _ _ (T4.le _ _ hM))
    refine W_Compare (W_Subscript (W_cr (by rfl) (sle _ _ (T4.U.le _ _ T4.c1)) (W_li rfl (by rfl) fun t => W_itemI hMs (by rw [mkl]; exact hz9) (by rw [mkl]; decide) fun t => ?_)))
    refine W_Subscript (W_cr (by rfl) (sle _ _ (T4.U.le _ _ T4.c1)) (W_ci (by rfl) (sle _ _ T4.e3) fun t => W_itemI hMs (by rw [mkl]; exact hx9) (by rw [mkl]; decide) fun t => W_eqInt ⟨?_, Led.le.refl _⟩))
    rw [mkg z hz9, mkg x hx9]
    show AV.bool _ = AV.bool _
    congr 1
    by_cases e : fk N 9 z = fk N 9 x
    · rw [e]; simp
    · rw [decide_eq_false e]; exact beq_eq_false_iff_ne.mpr fun q => e (by omega)
  rw [filter_tt]
  have hu' := (Led.le_set (o := .list ((F.take k).map iv)) hs5).none hu
  refine W_shrink (σ' := τ₅.set u (.list ((F.take k).map fun z => AV.bool (decide (fk N 9 z = fk N 9 x))))) ((Led.le_set hs5).set2) ?_
  have p5 := Led.le_set (o := .list ((F.take k).map fun z => AV.bool (decide (fk N 9 z = fk N 9 x)))) (T4.U.none hu')
  have T5 := T4.new (o := .list ((F.take k).map fun z => AV.bool (decide (fk N 9 z = fk N 9 x)))) hu'
  have w5 := p5 _ _ w4
  have u5 : (ψ₄.set u (.list ((F.take k).map fun z => AV.bool (decide (fk N 9 z = fk N 9 x))))) u = _ := Led.set_self
  generalize (τ₅.set u (.list ((F.take k).map fun z => AV.bool (decide (fk N 9 z = fk N 9 x))))) = τ₆ at T5 ⊢
  generalize (ψ₄.set u (.list ((F.take k).map fun z => AV.bool (decide (fk N 9 z = fk N 9 x))))) = ψ₅ at T5 w5 u5
  clear T4 w4 p5 hu hu' hs5
  have em : ∀ l : List Nat, (l.map fun z => (Dd z, AV.ref (A z))).map (·.2) = l.map fun z => AV.ref (A z) := fun l => by rw [List.map_map]; rfl
  -- told
  refine W_execs_cons (W_Assign_ListComp rfl (by rfl) (W_lr rfl (by exact hm3) ?_))
  refine W_itL (F.take k) (fun z => AV.ref (rA z)) (fun _ => true) (fun z => AV.bool (decide (fk N 9 z = fk N 9 x))) (by exact hh) T5.er (by omega) (fun C z v m'' hz' hv => ?_) fun v hv => ?_
  · obtain rfl := er_ref hv
    refine W_assignName (W_storeLocal rfl (W_tests_nil ⟨rfl, ?_⟩))
    rw [if_pos rfl]
    refine W_gcall G1.comp (by k_is) (by k_is) (W_arg2 (W_lr rfl (by rfl) (W_cr (by rfl) T5.e4 ?_)))
    refine cmpO (l1 := (nd N z).map fun z => (Dd z, AV.ref (A z))) (l2 := (nd N x).map fun z => (Dd z, AV.ref (A z))) (G1.comp.le (by decide)) (by exact hh) (by rw [em]; exact T5.U.le _ _ (T5.P.row z hz')) (by rw [em]; exact T5.U.le _ _ T5.hr)
      ((T5.P.rds (by omega) (Gv.behind hz')).mono T5.U.le) ((T5.P.rds (by omega) hah).mono T5.U.le) (by rw [List.length_map]; have := hz z; omega) (by rw [List.length_map]; omega) ⟨?_, Led.le.refl _⟩
    rw [T5.P.cmp hb Gv hx (.inl hz') (.inr rfl)]; rfl
  rw [filter_tt]
  have p6 := Led.le_set (o := .list ((F.take k).map fun z => AV.bool (decide (fk N 9 z = fk N 9 x)))) (T5.U.none hv)
  have T6 := T5.new (o := .list ((F.take k).map fun z => AV.bool (decide (fk N 9 z = fk N 9 x)))) hv
  have w6 := p6 _ _ w5
  have u6 := p6 _ _ u5
  have v6 : (ψ₅.set v (.list ((F.take k).map fun z => AV.bool (decide (fk N 9 z = fk N 9 x))))) v = _ := Led.set_self
  generalize (τ₆.set v (.list ((F.take k).map fun z => AV.bool (decide (fk N 9 z = fk N 9 x))))) = τ₇ at T6 ⊢
  generalize (ψ₅.set v (.list ((F.take k).map fun z => AV.bool (decide (fk N 9 z = fk N 9 x))))) = ψ₆ at T6 w6 u6 v6
  clear T5 w5 u5 p6 hv
  -- back
  refine W_execs_cons (W_Assign_ListComp rfl (by rfl) (W_lr rfl (by exact hm3) ?_))
  refine W_itL (F.take k) (fun z => AV.ref (rA z)) (fun _ => true) (fun z => AV.bool (decide (fk N 9 z = fk N 9 x))) (by exact hh) T6.er (by omega) (fun C z v m'' hz' hv => ?_) fun y hy => ?_
  · obtain rfl := er_ref hv
    refine W_assignName (W_storeLocal rfl (W_tests_nil ⟨rfl, ?_⟩))
    rw [if_pos rfl]
    refine W_gcall G1.comp (by k_is) (by k_is) (W_arg2 (W_cr (by rfl) T6.e4 (W_lr rfl (by rfl) ?_)))
    refine cmpO (l1 := (nd N x).map fun z => (Dd z, AV.ref (A z))) (l2 := (nd N z).map fun z => (Dd z, AV.ref (A z))) (G1.comp.le (by decide)) (by exact hh) (by rw [em]; exact T6.U.le _ _ T6.hr) (by rw [em]; exact T6.U.le _ _ (T6.P.row z hz'))
      ((T6.P.rds (by omega) hah).mono T6.U.le) ((T6.P.rds (by omega) (Gv.behind hz')).mono T6.U.le) (by rw [List.length_map]; omega) (by rw [List.length_map]; have := hz z; omega) ⟨?_, Led.le.refl _⟩
    rw [T6.P.cmp hb Gv hx (.inr rfl) (.inl hz')]
    show AV.bool _ = AV.bool _
    congr 1
    exact decide_eq_decide.mpr eq_comm
  rw [filter_tt]
  have p7 := Led.le_set (o := .list ((F.take k).map fun z => AV.bool (decide (fk N 9 z = fk N 9 x)))) (T6.U.none hy)
  have T7 := T6.new (o := .list ((F.take k).map fun z => AV.bool (decide (fk N 9 z = fk N 9 x)))) hy
  have w7 := p7 _ _ w6
  have u7 := p7 _ _ u6
  have v7 := p7 _ _ v6
  have y7 : (ψ₆.set y (.list ((F.take k).map fun z => AV.bool (decide (fk N 9 z = fk N 9 x))))) y = _ := Led.set_self
  generalize (τ₇.set y (.list ((F.take k).map fun z => AV.bool (decide (fk N 9 z = fk N 9 x))))) = τ₈ at T7 ⊢
  generalize (ψ₆.set y (.list ((F.take k).map fun z => AV.bool (decide (fk N 9 z = fk N 9 x))))) = ψ₇ at T7 w7 u7 v7 y7
  clear T6 w6 u6 v6 p7 hy
  -- the test
  have hkl : ((F.take k).map fun z => AV.bool (decide (fk N 9 z = fk N 9 x))).length ≤ 1000 := by rw [List.length_map]; omega
  have hkb : ∀ w ∈ (F.take k).map fun z => AV.bool (decide (fk N 9 z = fk N 9 x)), (∃ b, w = .bool b) ∨ ∃ a, w = .ref a := fun w hw => by obtain ⟨z, _, rfl⟩ := List.mem_map.mp hw; exact .inl ⟨_, rfl⟩
  refine W_execs_cons (W_If (W_isTrue_or (W_isTrue_Not (W_isTrue (W_gcall G1 (by k_is) (by k_is) (W_arg2 (W_lr rfl (by rfl) (W_lr rfl (by rfl) ?_))))))))
  refine lawSame (xs := (F.take k).map fun z => AV.bool (decide (fk N 9 z = fk N 9 x))) (G1.le (by decide)) hh (T7.U.le _ _ v7) (T7.U.le _ _ u7) hkb hkl (W_truthyBool ?_)
  show W _ (isTrue _ _ _) _ _ _ _
  refine W_isTrue_or (W_isTrue_Not (W_isTrue (W_gcall G1 (by k_is) (by k_is) (W_arg2 (W_lr rfl (by rfl) (W_lr rfl (by rfl) ?_))))))
  refine lawSame (xs := (F.take k).map fun z => AV.bool (decide (fk N 9 z = fk N 9 x))) (G1.le (by decide)) hh (T7.U.le _ _ y7) (T7.U.le _ _ u7) hkb hkl (W_truthyBool ?_)
  show W _ (isTrue _ _ _) _ _ _ _
  refine W_isTrue_or (W_isTrue_Compare (W_Compare (W_gcall G1 (by k_is) (by k_is) (W_arg1 (W_cr (by rfl) T7.e4 ?_)))))
  refine lawRefused (xs := (nd N x).map fun z => AV.ref (A z)) (G1.le (by decide)) hh (T7.U.le _ _ T7.hr) (fun y hy => ?_) ?_
  · obtain ⟨z, hz', rfl⟩ := List.mem_map.mp hy
    obtain ⟨x0, _, _, _, hA⟩ := T7.P.set z (hah z hz')
    exact ⟨A z, _, rfl, T7.U.le _ _ hA⟩
  refine W_Compare (W_cr (by rfl) T7.e4 (W_List (W_items_nil (W_newList fun e he => ?_))))
  have rdr : RD τ₈ (.list ((nd N x).map Dd)) (.ref r) := ⟨r, _, rfl, T7.U.le _ _ T7.hr, RDs_map fun z hz' => (T7.P.rd z (hah z hz')).1.mono T7.U.le⟩
  refine W_ne (da := .list ((nd N x).map Dd)) (db := .list []) (rdr.mono (Led.le_set he)) ⟨e, [], rfl, Led.set_self, rfl⟩ (layAll_map fun z hz' => (T7.P.rd z (hah z hz')).2.1) rfl (Nat.lt_of_le_of_lt (Nat.add_le_add_left (Nat.min_le_right _ _) _) (G1.unit (k := 1) (by decide))) ?_
  have eE : PyData.eqv (.list ((nd N x).map Dd)) (.list []) = ((nd N x).map fun z => AV.ref (A z)).isEmpty := by cases nd N x <;> rfl
  rw [eE]
  generalize (!((nd N x).map fun z => AV.ref (A z)).isEmpty) = bb
  refine W_ne (da := .bool bb) (db := .bool bb) rfl rfl rfl rfl (G1.unit (k := 0) (by decide)) (W_truthyBool ?_)
  rw [show PyData.eqv (.bool bb) (.bool bb) = true from beq_self_eq_true bb]
  show W _ (isTrue _ _ _) _ _ _ _
  refine W_isTrue_or0 ?_
  refine W_execs_nil (W_shrink (σ' := τ₈) (Led.le_set he) ?_)
  clear rdr eE he
  -- rows.append(row)
  refine W_execs_cons (W_Expr (W_CallMethod (W_lr rfl (by exact hm3) ?_)))
  refine W_getMethod_list PySem.F.slot_list_append PySem.F.type_list_append T7.er ?_
  refine W_callWithB (by intro a h; cases h) (W_arg1 (W_cr (by rfl) T7.e4 ?_))
  refine W_append T7.er ?_ (by rw [List.length_map]; omega)
  have hps : ps ≠ pr := fun e => by have := T7.es; rw [e, T7.er] at this; cases this
  have U8 := T7.U.upd (a := pr) (o := .list (((F.take k).map fun x => AV.ref (rA x)) ++ [.ref r]))
  have f3 : (τ₈.set pr (.list (((F.take k).map fun x => AV.ref (rA x)) ++ [.ref r]))) (L + 3) = _ := (Led.set_ne (Ne.symm hpr3)).trans T7.e3
  have f4 : (τ₈.set pr (.list (((F.take k).map fun x => AV.ref (rA x)) ++ [.ref r]))) (L + 4) = _ := (Led.set_ne (Ne.symm hpr4)).trans T7.e4
  have f5 : (τ₈.set pr (.list (((F.take k).map fun x => AV.ref (rA x)) ++ [.ref r]))) (L + 5) = _ := (Led.set_ne (Ne.symm hpr5)).trans T7.e5
  have fr : (τ₈.set pr (.list (((F.take k).map fun x => AV.ref (rA x)) ++ [.ref r]))) pr = _ := Led.set_self
  have fs : (τ₈.set pr (.list (((F.take k).map fun x => AV.ref (rA x)) ++ [.ref r]))) ps = _ := (Led.set_ne hps).trans T7.es
  show W _ _ _ _ _ (τ₈.set pr (.list (((F.take k).map fun x => AV.ref (rA x)) ++ [.ref r])))
  generalize (τ₈.set pr (.list (((F.take k).map fun x => AV.ref (rA x)) ++ [.ref r]))) = τ₉ at U8 f3 f4 f5 fr fs ⊢
  have le7 := T7.le
  have c17 := T7.c1
  have c27 := T7.c2
  have P7 := T7.P
  have r7 := T7.hr
  clear T7 u7 y7 hkl hkb
  have tk : F.take (k + 1) = F.take k ++ [x] := by rw [List.take_add_one, hx]; rfl
  -- sets[name] = ..
  refine W_execs_cons (W_Assign_Subscript (W_mono_ne (Q := fun v m₁ τ' => (m₁ "members" = some (.ref pn) ∧ m₁ "given" = some (.ref pf) ∧ m₁ "rows" = some (.ref pr)) ∧ ∃ a ψ', v = .ref a ∧ ψ₇.le ψ' ∧ Und ψ' τ' [pr, ps, L + 3, L + 4, L + 5] ∧ τ₉.le τ' ∧
    ∃ Dd', AlkP N F (k + 1) ψ' (fun z => if z = x then a else A z) (fun z => if z = x then r else rA z) Dd') ?_ ?_))
  · refine W_IfExp (W_isTrue_Compare (W_Compare (W_constBool (W_lr rfl (by rfl) ?_))))
    refine W_in (d := .bool true) (ds := (F.take k).map fun z => PyData.bool (decide (fk N 9 z = fk N 9 x))) ⟨v, _, rfl, U8.le _ _ v7, RDs_map (A := fun z => AV.bool (decide (fk N 9 z = fk N 9 x))) fun z _ => rfl⟩ rfl (layAll_map fun _ _ => rfl) rfl
      (Nat.lt_of_le_of_lt (Nat.add_le_add_left (Nat.min_le_right _ _) _) (G1.unit (k := 1 + 0) (by decide))) (W_truthyBool ?_)
    have eA : (((F.take k).map fun z => PyData.bool (decide (fk N 9 z = fk N 9 x))).any fun y => PyData.eqv y (.bool true)) = (F.take k).any fun z => decide (fk N 9 z = fk N 9 x) := by
      rw [List.any_map]
      congr 1
      funext z
      show PyData.eqv (.bool (decide (fk N 9 z = fk N 9 x))) (.bool true) = decide (fk N 9 z = fk N 9 x)
      cases decide (fk N 9 z = fk N 9 x) <;> rfl
    rw [eA]
    cases hany : (F.take k).any fun z => decide (fk N 9 z = fk N 9 x) with
    | true =>
      obtain ⟨y0, hy0, hy0'⟩ := List.any_eq_true.mp hany
      have hj0 : ((F.take k).findIdx fun z => decide (fk N 9 z = fk N 9 x)) < (F.take k).length := List.findIdx_lt_length_of_exists ⟨y0, hy0, hy0'⟩
      have hat := List.findIdx_getElem (w := hj0)
      have hno : ∀ i, i < ((F.take k).findIdx fun z => decide (fk N 9 z = fk N 9 x)) → ∀ (q : i < (F.take k).length), decide (fk N 9 (F.take k)[i] = fk N 9 x) = false := fun i hi q => List.not_of_lt_findIdx hi
      generalize ((F.take k).findIdx fun z => decide (fk N 9 z = fk N 9 x)) = j0 at hj0 hat hno
      have hjF : j0 < F.length := by rw [hfl] at hj0; omega
      have hy : F[j0] ∈ F.take k := by
        have := List.getElem_mem hj0
        rwa [List.getElem_take] at this
      have hym : fk N 9 F[j0] = fk N 9 x := by
        have := of_decide_eq_true hat
        rwa [List.getElem_take] at this
      obtain ⟨z0, _, _, _, hset⟩ := P7.set _ hy
      refine W_bcall G1 (by k_is) boot_list (W_arg1 (W_Subscript (W_cr (by rfl) (U8.le _ _ c27) (W_Subscript (W_lr rfl (by exact hm2) (W_CallMethod (W_lr rfl (by rfl) ?_)))))))
      refine W_getMethod_list PySem.F.slot_list_index PySem.F.type_list_index (U8.le _ _ v7) ?_
      refine W_callWithB (by intro a h; cases h) (W_arg1 (W_constBool ?_))
      refine W_index (ys := (F.take k).map fun z => (PyData.bool (decide (fk N 9 z = fk N 9 x)), AV.bool (decide (fk N 9 z = fk N 9 x)))) (d := .bool true) (j := j0) (G1.unit (k := 60) (by decide)) (by rw [List.map_map]; exact U8.le _ _ v7) (fun q hq => ?_) rfl rfl (Nat.zero_le _) (by rw [List.length_map]; omega) (by rw [List.length_map]; exact hj0) ?_ (fun i hi hlt => ?_) fun t => ?_
      · obtain ⟨z, _, rfl⟩ := List.mem_map.mp hq
        exact ⟨rfl, rfl, Nat.zero_le _⟩
      · rw [List.getElem_map]
        show PyData.eqv (.bool (decide _)) (.bool true) = true
        rw [hat]; rfl
      · rw [List.getElem_map]
        show PyData.eqv (.bool (decide _)) (.bool true) = false
        rw [hno i hlt (by rw [List.length_map] at hi; exact hi)]; rfl
      · refine W_itemI (U8.le _ _ (le7 _ _ hF)) hjF (by omega) fun t => W_itemDict fs (k := .num (F[j0] : Nat)) rfl (dget_names hy) fun v' hv' => ?_
        obtain rfl := er_ref hv'
        refine W_listCopy (.inl (U8.le _ _ hset)) (by rw [List.length_map]; exact Nat.le_trans (wd_len _) (Nat.le_trans (hz z0) (by omega))) fun a ha => ?_
        have pa := Led.le_set (o := .list ((wr N z0).map fun z => AV.ref (A z))) (U8.none ha)
        exact ⟨⟨by exact hm1, by exact hm2, by exact hm3⟩, a, _, rfl, pa, U8.new ha, Led.le_set ha, P7.pushOld Gv hx pa (pa _ _ r7) hy hym (Led.set_self.trans hset.symm)⟩
    | false =>
      refine W_lr rfl (by rfl) ?_
      refine ⟨⟨by exact hm1, by exact hm2, by exact hm3⟩, w, ψ₇, rfl, Led.le.refl _, U8, Led.le.refl _, P7.pushNew hb Gv hx (Led.le.refl _) r7 (fun y hy e => ?_) w7⟩
      rw [List.any_eq_false] at hany
      exact hany y hy (decide_eq_true e)
  · rintro _ m₁ τ' ⟨⟨g1, g2, g3⟩, a, ψ', rfl, leψ, U9, leτ, Dd', P9⟩
    refine W_cr (by rfl) (U9.le _ _ (leψ _ _ c27)) (W_ci (by rfl) (leτ _ _ f3) fun t => W_setItemDict (k := .num x) (leτ _ _ fs) rfl (by rw [List.length_map]; omega) fun ep' => ?_)
    refine W_execs_nil ⟨by exact g1, by exact g2, by exact g3, ψ', _, _, Dd', _, _, _, ep', U9.upd, le7.trans leψ, leψ _ _ c17, leψ _ _ c27, (Led.set_ne (Ne.symm hps3)).trans (leτ _ _ f3), (Led.set_ne (Ne.symm hps4)).trans (leτ _ _ f4), (Led.set_ne (Ne.symm hps5)).trans (leτ _ _ f5), ?_, ?_, P9⟩
    · refine (Led.set_ne (Ne.symm hps)).trans ((leτ _ _ fr).trans ?_)
      rw [tk, List.map_append, List.map_congr_left (l := F.take k) (f := fun z => AV.ref (if z = x then r else rA z)) (g := fun z => AV.ref (rA z)) fun z hz' => by rw [if_neg fun (e : z = x) => hxn (e ▸ hz')]]
      simp
    · refine Led.set_self.trans ?_
      show some (AO.dict (dput ((F.take k).map fun n => (iv n, AV.ref (A n))) (.num x) (iv x) (.ref a)) ep') = _
      rw [dput_names hxn, tk, List.map_append, List.map_congr_left (l := F.take k) (f := fun z => (iv z, AV.ref (if z = x then a else A z))) (g := fun z => (iv z, AV.ref (A z))) fun z hz' => by rw [if_neg fun (e : z = x) => hxn (e ▸ hz')]]
      simp
end L1
end Mine
end
section
namespace Mine
section
variable {c : Cx} {E : Value → Loc → Led → Prop} {m : Loc} {σ : Led} {env : Env} {t1 i1 i2 : Expr} {y : Str} {p1 p2 pos : Pos} {scope : Scope} {cl : List (Str × Addr)}
/-- y = [.. for .. for ..], y a name of the frame itself -/
theorem W_Assign_ListComp2 {x₀ : Str} {py spos : Pos} {Q : Flow → Loc → Led → Prop} (hh : c.A.handled = none) (hL : env.locals = c.L) (hclos : closureFor scope env = pure cl)
    (h : W c (eval i1 env) (fun xv m σ => W c (pyIter xv) (fun it m σ => CompGoal2 c m env scope cl t1 i2 (fun a τ => Q .next (m.set x₀ (.ref a)) τ) it σ) E m σ) E m σ)
    (hsw : swapsWith (.ListComp (.Name y p1) [⟨t1, i1, [], 0⟩, ⟨.Name y p2, i2, [], 0⟩] scope pos) (some (.Name x₀ py)) spos.line env = pure true := by rfl)
    (hcell : ∀ y ∈ scope.names, y.2 ≠ .cell := by decide) (hkind : scope.kind = .function := by rfl) (hnames : ∀ x ∈ scope.names, x.2 = .local → scope.names.lookup x.1 = some .local := by decide)
    (ht : ∀ it v, letOwnedTupleGo t1 it v = pure () := by intro _ _; rfl) (hs : ∀ x, foldedSetIterable i1 env x = pure x := by intro _; rfl) (hs2 : ∀ C x, foldedSetIterable i2 (compEnvC scope cl C env) x = pure x := by intro _ _; rfl)
    (hkC : ∀ C, (compEnvC scope cl C env).scope.kind = .function := by intro _; rfl) (hyC : ∀ C, (compEnvC scope cl C env).kindOf y = some .local := by intro _; rfl) (hdb : (y == ("__debug__" : Str)) = false := by decide) (hk : env.scope.kind = .function := by rfl) (hy : env.kindOf x₀ = some .local := by rfl) :
    W c (exec (.Assign [.Name x₀ py] (.ListComp (.Name y p1) [⟨t1, i1, [], 0⟩, ⟨.Name y p2, i2, [], 0⟩] scope pos) spos) env) Q E m σ := fun φ s hd hA => by
  rw [exec_Assign_Name_used _ _ _ _ hsw]
  refine wpAny_bind (wpAny_standAt (wpAny_bind ?_))
  show wpAny _ c.A (do let _ ← comprehension (.ListComp (.Name y p1) [⟨t1, i1, [], 0⟩, ⟨.Name y p2, i2, [], 0⟩] scope pos) scope env _ (newList []) false (eval i1 env) (some (assign (.Name x₀ py) env))) _ _ s
  refine wpAny_bind (wpAny_mono (wpAny_comprehension_free (use := some (assign (.Name x₀ py) env)) (Q := fun _ s' => PQ c φ s Q .next s') rfl hs hclos hkind hnames
    (wpAny_mono (h φ s hd hA) (fun xv s₁ x => ?_) fun _ _ x => x)) (fun _ s' hq => wpAny_pure (wpAny_pure hq)) fun _ _ e => e)
  obtain ⟨h₁, tk₁, m₁, σ₁, rfl, hd₁, hA₁, x⟩ := x
  refine wpAny_mono (x φ _ hd₁ hA₁) (fun it s₂ x => ?_) fun _ _ x => x.re
  obtain ⟨h₂, tk₂, m₂, σ₂, rfl, hd₂, hA₂, g⟩ := x
  refine comp_block2 (c := c) (s := { s with heap := h₂, toks := tk₂ }) (RR := fun acc C => compPost (model c.prog c.w) c.A (PE c φ s E) (some (assign (.Name x₀ py) env)) (fun _ s' => PQ c φ s Q .next s') acc C) hh hcell hkind ht hs2 hkC hyC hdb hd₂ hA₂ g fun a C h' tk m' σ' hd' hA' hF => ?_
  have hAp := hA'.pop
  obtain ⟨mL, hnL, heL⟩ := hAp.frames _ (.head _)
  obtain ⟨mC, hnC, _⟩ := hA'.frames (C, m') (.head _)
  have hLC : c.L ≠ C := fun e => (List.nodup_cons.mp hA'.nodup).1 (List.mem_map.mpr ⟨(c.L, m₂), .head _, e⟩)
  show wpAny _ c.A (assign (.Name x₀ py) env (.ref a)) _ _ _
  refine wpAny_assign_Name (wpAny_storeName_local hy (hL ▸ hnL) (fun h₃ hn₃ hs₃ => ?_) (by rw [hk]; rfl))
  have hA3 : At c.w c.B ((c.L, m₂.set x₀ (.ref a)) :: (C, m') :: c.fs) h₃ (σ'.un φ) := by
    have hsw : At c.w c.B ((c.L, m₂) :: (C, m') :: c.fs) h' (σ'.un φ) := by
      have nd := List.nodup_cons.mp hA'.nodup
      refine ⟨hA'.keep, fun p hp => ?_, fun p hp => ?_, ?_, hA'.led, hA'.new, fun b ao e p hp => ?_⟩
      · rcases List.mem_cons.mp hp with rfl | hp
        · exact hA'.frames _ (.tail _ (.head _))
        · rcases List.mem_cons.mp hp with rfl | hp
          · exact hA'.frames _ (.head _)
          · exact hA'.frames _ (.tail _ (.tail _ hp))
      · rcases List.mem_cons.mp hp with rfl | hp
        · exact hA'.above (c.L, m₂) (.tail _ (.head _))
        · rcases List.mem_cons.mp hp with rfl | hp
          · exact hA'.above (C, m') (.head _)
          · exact hA'.above p (.tail _ (.tail _ hp))
      · have nd2 := List.nodup_cons.mp nd.2
        refine List.nodup_cons.mpr ⟨fun hm => ?_, List.nodup_cons.mpr ⟨fun hm => nd.1 (.tail _ hm), nd2.2⟩⟩
        rcases List.mem_cons.mp hm with e | hm
        · exact hLC e
        · exact nd2.1 hm
      · rcases List.mem_cons.mp hp with rfl | hp
        · exact hA'.apart b ao e (c.L, m₂) (.tail _ (.head _))
        · rcases List.mem_cons.mp hp with rfl | hp
          · exact hA'.apart b ao e (C, m') (.head _)
          · exact hA'.apart b ao e p (.tail _ (.tail _ hp))
    refine hsw.store (hL ▸ hs₃) ⟨_, hL ▸ hn₃, fun z => ?_⟩
    unfold Loc.set
    by_cases q : z = x₀
    · simp [q, er]
    · simp only [if_neg q]; exact heL z
  refine ⟨mC, hnC.sameBut (hL ▸ hs₃) (Ne.symm hLC), fun h₄ hs₄ => ?_⟩
  refine ⟨h₄, _, m₂.set x₀ (.ref a), σ', rfl, hd', ?_, hF⟩
  have nd := List.nodup_cons.mp hA3.nodup
  have nd2 := List.nodup_cons.mp nd.2
  have e1 : At c.w c.B ((c.L, m₂.set x₀ (.ref a)) :: c.fs) h₃ (σ'.un φ) := by
    refine ⟨hA3.keep, fun p hp => ?_, fun p hp => ?_, List.nodup_cons.mpr ⟨fun hm => nd.1 (.tail _ hm), nd2.2⟩, hA3.led, hA3.new, fun b ao e p hp => ?_⟩
    · rcases List.mem_cons.mp hp with rfl | hp
      · exact hA3.frames _ (.head _)
      · exact hA3.frames p (.tail _ (.tail _ hp))
    · rcases List.mem_cons.mp hp with rfl | hp
      · exact hA3.above (c.L, m₂.set x₀ (.ref a)) (.head _)
      · exact hA3.above p (.tail _ (.tail _ hp))
    · rcases List.mem_cons.mp hp with rfl | hp
      · exact hA3.apart b ao e (c.L, m₂.set x₀ (.ref a)) (.head _)
      · exact hA3.apart b ao e p (.tail _ (.tail _ hp))
  refine e1.off hs₄ (hA3.above (C, m') (.tail _ (.head _))) ?_ fun p hp q => ?_
  · cases z : σ'.un φ C with
    | none => rfl
    | some ao => exact (hA3.apart C ao z (C, m') (.tail _ (.head _)) rfl).elim
  · rcases List.mem_cons.mp hp with rfl | hp
    · exact hLC q.symm
    · exact nd2.1 (List.mem_map.mpr ⟨p, hp, q.symm⟩)
end
end Mine
end
section
namespace Mine
theorem fillL1G : (fun (_ : OpenLaw) (_ : Params → Frag) => True) PySem.Challenge.rw_nq0156_01 Mine.hd.heap_1 := by
  k_fill; trivial
theorem perm_sorted_eq : ∀ {a b : List Int}, a.Perm b → a.Pairwise (· ≤ ·) → b.Pairwise (· ≤ ·) → a = b
  | [], b, h, _, _ => (List.nil_perm.mp h).symm
  | x :: a, b, h, ha, hb => by
    cases b with
    | nil => exact (List.cons_ne_nil _ _ (List.perm_nil.mp h)).elim
    | cons y b =>
      rw [List.pairwise_cons] at ha hb
      have e : x = y := by
        have h1 : x ∈ y :: b := h.mem_iff.mp (.head _)
        have h2 : y ∈ x :: a := h.mem_iff.mpr (.head _)
        rcases List.mem_cons.mp h1 with q | q
        · exact q
        · rcases List.mem_cons.mp h2 with r | r
          · exact r.symm
          · exact Int.le_antisymm (ha.1 y r) (hb.1 x q)
      subst e
      rw [perm_sorted_eq (List.Perm.cons_inv h) ha.2 hb.2]
/-- sorted numbers are told by what they are -/
theorem sorted_of {ns' : List Int} {l f : List Nat} (hp : ns'.Perm (l.map fun (n : Nat) => (n : Int))) (hs : ns'.Pairwise (· ≤ ·)) (hl : l.Perm f) (hf : f.Pairwise (· ≤ ·)) : ns'.map AV.int = f.map iv := by
  have h2 : (f.map fun (n : Nat) => (n : Int)).Pairwise (· ≤ ·) := by
    rw [List.pairwise_map]
    exact hf.imp fun h => by omega
  rw [perm_sorted_eq (hp.trans (hl.map _)) hs h2, List.map_map]
  rfl
section
variable {c : Cx} {E : Value → Loc → Led → Prop} {m : Loc} {σ : Led} {env : Env} {t1 i2 : Expr} {scope : Scope} {cl : List (Str × Addr)}
/-- [.. for x in l for y in x] -/
theorem W_it2 {β : Type} {F : Loc → Addr → Led → Prop} {l : Addr} (bs : List β) (val : β → AV) (f : β → List AV) (hh : c.A.handled = none) (hl : σ l = some (.list (bs.map val))) (hz : ∀ j, ((bs.take j).flatMap f).length ≤ 500000)
    (turn : ∀ C b v m', b ∈ bs → er v = val b → W (c.comp m C) (assign t1 (compEnvC scope cl C env) v) (fun _ m' τ => W (c.comp m C) (eval i2 (compEnvC scope cl C env)) (fun xv m' τ' => ∃ q, xv = .ref q ∧ (τ' q = some (.list (f b)) ∨ τ' q = some (.tuple (f b))) ∧ τ' = σ) NoE m' τ) NoE m' σ)
    (fin : ∀ a, σ a = none → F m a (σ.set a (.list (bs.flatMap f)))) : W c (pyIter (.ref l)) (fun it m σ => CompGoal2 c m env scope cl t1 i2 (F m) it σ) E m σ :=
  W_pyIter_list hl fun I hI => by
    refine ⟨I, bs.map val, fun τ => τ l = some (.list (bs.map val)), isLIter l, σ, fun j ys τ' => τ' = σ ∧ ys = (bs.take j).flatMap f, rfl, fun C => IterS.list (by exact hh) I l _, rfl, hI, fun j ys τ' x => ?_, ⟨rfl, rfl⟩, fun C j x v m' ys τ' hx hv hinv => ?_, fun ys τ' a hinv ha => ?_⟩
    · obtain ⟨rfl, rfl⟩ := x
      exact ⟨hl, hz j⟩
    · obtain ⟨rfl, rfl⟩ := hinv
      obtain ⟨b, hb, rfl⟩ : ∃ b, bs[j]? = some b ∧ val b = x := by
        rw [List.getElem?_map] at hx
        cases e : bs[j]? with
        | none => rw [e] at hx; cases hx
        | some b => rw [e] at hx; exact ⟨b, rfl, by simpa using hx⟩
      refine W_mono_ne (turn C b v m' (List.mem_of_getElem? hb) hv) fun _ m₁ τ₁ W1 => W_mono_ne W1 fun xv m₂ τ₂ x => ?_
      obtain ⟨q, rfl, hq, rfl⟩ := x
      refine ⟨q, f b, rfl, hq, rfl, ?_⟩
      rw [List.take_add_one, hb, List.flatMap_append]
      simp
    · obtain ⟨rfl, rfl⟩ := hinv
      rw [List.length_map, List.take_length]
      exact fin a ha
end
theorem flat_len {gs : List (List Nat)} (h : ∀ g ∈ gs, g ≠ []) : gs.length ≤ gs.flatten.length := by
  induction gs with
  | nil => simp
  | cons g gs ih =>
    have h1 := ih fun x hx => h x (.tail _ hx)
    have h2 := List.length_pos_iff.mpr (h g (.head _))
    rw [List.flatten_cons, List.length_append, List.length_cons]; omega
theorem flat_range {gs : List (List Nat)} : (List.range gs.length).flatMap (fun i => (gs[i]?.getD []).map iv) = gs.flatten.map iv := by
  have e := map_range_get (d := ([] : List Nat)) (xs := gs) rfl
  have e2 : gs.flatten.map iv = (((List.range gs.length).map fun i => gs[i]?.getD []).flatten).map iv := by rw [← e]
  rw [e2, List.map_flatten, List.map_map]
  rfl
theorem flat_take {f : Nat → List AV} {n j : Nat} : (((List.range n).take j).flatMap f).length ≤ ((List.range n).flatMap f).length := by
  have : ((List.range n).flatMap f) = ((List.range n).take j).flatMap f ++ ((List.range n).drop j).flatMap f := by rw [← List.flatMap_append, List.take_append_drop]
  rw [this, List.length_append]; omega
namespace L1
set_option maxRecDepth 100000 in
set_option maxHeartbeats 4000000 in
theorem lawRun {prog : Program} {w : World} {s : Shared} {l : Addr} {vs : List Value} {ms : List Int} (X : (Mine.hd.heap_1 w.params).In s.heap) (T : ∃ p loose mg mb, TopRead p loose mg mb s.heap) (hmods : ∃ o, s.heap.get? sysModules = some o)
    (hl : s.heap.IsList l vs.toArray) (hi : IntsAre vs ms) (hmz : ms.length ≤ 63) :
    codeAny (model prog w) callerA (.call (.ref 207) ⟨[.ref l], []⟩) (fun r s' => r = .ok (.ret (.bool true)) ∧ ∃ h' tk, s' = { s with heap := h', toks := tk } ∧ ∀ b o, s.heap.get? b = some o → h'.get? b = some o) s := by
  refine entry (K := Mine.hd.heap_1) [("script", .ref l)] X T hmods (by k_is) (by k_is) (by rfl) (by rfl) fun L G hh => ?_
  have hsz : 1000000 ≤ sizeLine := by decide
  show W _ _ _ _ _ Led.nil
  -- members
  refine W_execs_cons (W_Assign_Name (W_gcall G (by k_is) (by k_is) (W_arg1 (W_lr rfl (by rfl) ?_))))
  refine lawMembers (G.le (by decide)) hh hl hi hmz fun pn σ₁ xs hx9 hle hN => W_storeLocal rfl ?_
  obtain ⟨h9, hz, hb⟩ := memb_ok xs
  generalize membF xs = N at hN h9 hz hb
  -- groups, ring
  refine W_execs_cons (W_Assign_Tuple (W_gcall G (by k_is) (by k_is) (W_arg1 (W_lr rfl (by rfl) ?_))))
  refine lawGroups (G.le (by decide)) hh hN h9 hz hb fun tu pg φ gs ring le1 htu hrd hgs hend hring => ?_
  refine W_assignTuple (xs := [.ref pg, .bool ring]) hh htu fun vs' hvs => ?_
  obtain ⟨v1, vs1, rfl, e1, hvs⟩ := map_er_cons hvs
  obtain ⟨v2, vs2, rfl, e2, hvs⟩ := map_er_cons hvs
  have : vs2 = [] := by cases vs2 with | nil => rfl | cons _ _ => cases hvs
  subst this
  obtain rfl := er_ref e1
  obtain rfl := er_bool e2
  refine W_inOrder_cons (W_assignName (W_storeLocal rfl (W_inOrder_cons (W_assignName (W_storeLocal rfl (W_inOrder_nil ?_))))))
  show W _ _ _ _ _ φ
  have Gv := given_of hb hgs hend
  have hgs0 : ∀ g ∈ gs, g ≠ [] := fun g hg => by
    obtain ⟨i, hi⟩ := List.mem_iff_getElem?.mp hg
    exact (hgs i g hi).2
  have hgl : gs.length ≤ 9 := Nat.le_trans (flat_len hgs0) Gv.le
  have hN1 := hN.mono le1
  obtain ⟨pg', ys, e, hys, hrds⟩ := hrd
  cases e
  have hyl : ys.length = gs.length := by rw [hrds.length, List.length_map]
  have hyr := map_range_get (d := AV.none) hyl
  have hat : ∀ j, j < gs.length → ∃ a, ys[j]?.getD .none = .ref a ∧ φ a = some (.tuple ((gs[j]?.getD []).map iv)) := fun j hj => by
    obtain ⟨x, hx, hr⟩ := hrds.get (i := j) (d := dT gs[j]) (by rw [List.getElem?_map, List.getElem?_eq_getElem hj]; rfl)
    obtain ⟨a, rfl, ha⟩ := RD_dT.mp hr
    exact ⟨a, by rw [hx]; rfl, by rw [ha, List.getElem?_eq_getElem hj]; rfl⟩
  -- the groups are those that are due
  refine W_execs_cons (W_If (W_isTrue_Compare (W_Compare (W_ListComp (by rfl) (W_lr rfl (by rfl) ?_)))))
  refine W_itLd (List.range gs.length) (fun i => ys[i]?.getD .none) (fun _ => true) (fun j => dI (grpK N j)) (by exact hh) (by rw [← hyr]; exact hys) (by rw [List.length_range]; omega) (fun C j v m' τ₁ hj hv hle => ?_) fun zs τ' a hle' hrd' ha => ?_
  · have hj' := List.mem_range.mp hj
    obtain ⟨b, hb1, hb2⟩ := hat j hj'
    rw [hb1] at hv
    obtain rfl := er_ref hv
    refine W_assignName (W_storeLocal rfl (W_tests_nil ⟨rfl, ?_⟩))
    rw [if_pos rfl]
    have hgj : gs[j]? = some gs[j] := List.getElem?_eq_getElem hj'
    rw [hgj] at hb2
    obtain ⟨hp, _⟩ := hgs j _ hgj
    have hlen : gs[j].length ≤ 9 := by rw [hp.length_eq]; exact Nat.le_trans (List.length_filter_le _ _) (leftK_len j)
    refine W_bcall G.comp (by k_is) boot_sorted (W_arg1 (W_lr rfl (by rfl) ?_))
    refine W_sortedOf (ns := gs[j].map fun (n : Nat) => (n : Int)) (W_collectTuple (xs := gs[j].map iv) (.inr (hle _ _ hb2)) (by rw [List.length_map]; omega) fun us hus => ⟨rfl, rfl, by rw [hus, List.map_map]; rfl⟩) (by rw [List.length_map]; omega) fun q ns' hq hp' hso => ⟨?_, Led.le_set hq⟩
    refine RD_dI' (Led.set_self.trans ?_)
    rw [sorted_of hp' hso hp (grpK_sorted j)]
  rw [filter_tt] at hrd'
  have le2 := hle'.trans (Led.le_set (o := .list zs) ha)
  have hA : RD (τ'.set a (.list zs)) (dII ((List.range gs.length).map (grpK N))) (.ref a) := ⟨a, zs, rfl, Led.set_self, by rw [List.map_map]; exact hrd'.mono (Led.le_set ha)⟩
  refine W_gcall G (by k_is) (by k_is) (W_arg1 (W_lr rfl (by rfl) ?_))
  refine lawFounded (G.le (by decide)) hh (hN1.mono le2) h9 (fun i => Nat.le_trans (hz i) (by decide)) fun b σ₂ k le3 hk hke hkn hB => ?_
  obtain rfl := groups_is hgs hend hke hkn
  refine W_neII G (hA.mono le3) hB (W_truthyBool ?_)
  rw [decide_eq_true rfl]
  refine W_execs_nil (W_shrink (σ' := φ) (le2.trans le3) ?_)
  clear hA hB hrd' ha le2 le3 hle'
  -- given
  refine W_execs_cons (W_Assign_ListComp2 (by exact hh) rfl (by rfl) (W_lr rfl (by rfl) ?_))
  refine W_it2 (List.range gs.length) (fun i => ys[i]?.getD .none) (fun i => (gs[i]?.getD []).map iv) (by exact hh) (by rw [← hyr]; exact hys) (fun j => Nat.le_trans flat_take (by rw [flat_range, List.length_map]; have := Gv.le; omega)) (fun C j v m' hj hv => ?_) fun pf hpf => ?_
  · obtain ⟨b, hb1, hb2⟩ := hat j (List.mem_range.mp hj)
    rw [hb1] at hv
    obtain rfl := er_ref hv
    exact W_assignName (W_storeLocal rfl (W_lr rfl (by rfl) ⟨b, rfl, .inr hb2, rfl⟩))
  rw [flat_range]
  have hF : (φ.set pf (.list (gs.flatten.map iv))) pf = some (AI gs.flatten) := Led.set_self
  have hN2 := hN1.mono (Led.le_set (o := .list (gs.flatten.map iv)) hpf)
  have hring' := ring_is h9 hb Gv hring
  generalize gs.flatten = F at Gv hF hring' hN2 ⊢
  generalize (φ.set pf (.list (F.map iv))) = φ₂ at hF hN2 ⊢
  have hF9 := Gv.le
  -- ring
  refine W_execs_cons (W_If (W_isTrue_Compare (W_Compare (W_lb rfl (by rfl) (W_Compare (W_bcall G (by k_is) PySem.boot_len (W_arg1 (W_lr rfl (by rfl) (W_len (xs := F.map iv) (.inl hF) (by rw [List.length_map]; omega) fun t => W_constInt fun t => W_lt ?_)))))))))
  have hringv : ring = decide (((F.map iv).length : Int) < 9) := by
    rw [hring', List.length_map]
    by_cases q : F.length < 9
    · rw [decide_eq_true q, decide_eq_true (by omega)]
    · rw [decide_eq_false q, decide_eq_false (by omega)]
  rw [← hringv]
  refine W_ne (da := .bool ring) (db := .bool ring) rfl rfl rfl rfl (G.unit (k := 0) (by decide)) (W_truthyBool ?_)
  rw [show PyData.eqv (.bool ring) (.bool ring) = true from beq_self_eq_true ring]
  refine W_execs_nil ?_
  refine W_execs_cons (W_Return (W_gcall G (by k_is) (by k_is) (W_arg3 (W_lr rfl (by rfl) (W_lr rfl (by rfl) (W_gcall G (by k_is) (by k_is) (W_arg1 (W_lr rfl (by rfl) ?_))))))))
  refine lawMarks (G.le (by decide)) hh hN2 h9 hz hb fun pm σ₃ le3 hM => ?_
  exact lawAlike (G.le (by decide)) hh (hN2.mono le3) h9 hz hb Gv (le3 _ _ hF) hM rfl
end L1
end Mine
end
section
set_option maxRecDepth 100000 in
set_option maxHeartbeats 8000000 in
theorem PySem.Challenge.cw_nq0156_01_holds : PySem.Challenge.rw_nq0156_01.Holds := by
  refine Mine.hd ?_
  k_fill
  intro w s₀ s₁ mg mb G Y fa o pm cd doc dV kV ho hd hcd hD hmg hg args vals as hpre hlay hrd hwl hlo
  have KX := kIn_of Y
  refine Ground.open G ?_
  intro T B D TE TW
  have hmg' : mg (Str.ofString "law") = some (.ref fa) := hmg
  clear hmg
  wrow_args hpre hlay hrd hwl hlo
  all_goals (first | refine callC_kw (enter_call ?_) | refine enter_call ?_ | refine callC_kw (enter_callW ?_) | refine enter_callW ?_ | w_how)
  clear hd hcd hD Y G TE TW B D
  rename_i hI hr hc1 hc2
  have hmods : ∃ o, s₁.heap.get? sysModules = some o := by
    obtain ⟨_, ⟨o, _, _, e, _⟩, _⟩ := (T.seer (by decide +kernel)).mods
    exact ⟨o, e⟩
  have hfa : mg (Str.ofString "law") = some (.ref 207) := mg_of KX T.g (by k_is)
  rw [hmg'] at hfa
  cases hfa
  refine codeAny_mono (Mine.L1.lawRun KX ⟨_, _, _, _, topRead_of T⟩ hmods (by assumption) hI (by omega)) fun r s' x => ?_
  obtain ⟨rfl, h', tk, rfl, keep⟩ := x
  exact GoodW.toG ⟨.inl ⟨.bool true, .bool true, [], rfl, fun _ => rfl, .bool true, by wrow_post, unshared_nil⟩, keep, rfl, hg⟩
end
