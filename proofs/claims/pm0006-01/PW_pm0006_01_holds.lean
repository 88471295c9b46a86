import PyProof.Rows.All
import Wide.All
import OpenK.AllK
import Wide.FinOn
import Lean
import PySem.Challenge.RW_pm0006_01
open PySem PySem.W PyProof.Rows PySem.Calls
set_option Elab.async false
set_option maxRecDepth 100000
set_option linter.unusedVariables false
namespace Mine
set_option maxHeartbeats 8000000 in
open_top hd for PySem.Challenge.rw_pm0006_01

noncomputable abbrev KK (w : World) : Frag := hd.heap_39 w.params

/-- what the top left, as a state bears it -/
structure Base (w : World) (s : Shared) : Prop where
  k : (KK w).In s.heap
  t : ∃ mg mb, TopRead hd.view_39 (looseW hd.view_39 []) mg mb s.heap

/-- nothing that stood is changed -/
structure Calm (s s' : Shared) : Prop where
  keep : ∀ b o, s.heap.get? b = some o → s'.heap.get? b = some o
  os : s'.os = s.os
  gens : ∀ (i : Nat) (x : GenState), s.gens[i]? = some x → s'.gens[i]? = some x
  bare : AllBare s.gens → AllBare s'.gens

theorem Calm.refl (s : Shared) : Calm s s := ⟨fun _ _ h => h, rfl, fun _ _ h => h, id⟩
theorem Calm.trans {a b c : Shared} (x : Calm a b) (y : Calm b c) : Calm a c :=
  ⟨fun b o h => y.keep b o (x.keep b o h), y.os.trans x.os, fun i g h => y.gens i g (x.gens i g h), fun h => y.bare (x.bare h)⟩
theorem Base.calm {w : World} {s s' : Shared} (b : Base w s) (c : Calm s s') : Base w s' :=
  ⟨b.k.keeps c.keep, let ⟨mg, mb, t⟩ := b.t; ⟨mg, mb, t.keeps c.keep⟩⟩
theorem Base.nolimit {w : World} {s : Shared} (b : Base w s) : s.heap.NoLimit := let ⟨_, _, t⟩ := b.t; t.nolimit

def Room (A : Around) (d : Nat) : Prop := A.handled = none ∧ A.depth + d < recursionLimit ∧ A.units + 8 * d < cLine
theorem Room.deeper {A : Around} {d : Nat} {env : Env} (h : Room A (d + 1)) : Room (A.deeper env) d :=
  ⟨h.1, by have := h.2.1; show A.depth + 1 + d < _; omega, by have := h.2.2; show A.units + 3 + 8 * d < _; omega⟩
theorem Room.in1 {A : Around} {d : Nat} (h : Room A (d + 1)) : Room A.in1 d :=
  ⟨h.1, by have := h.2.1; show A.depth + d < _; omega, by have := h.2.2; show A.units + 1 + 8 * d < _; omega⟩
theorem Room.mono {A : Around} {d e : Nat} (h : Room A d) (l : e ≤ d) : Room A e :=
  ⟨h.1, by have := h.2.1; omega, by have := h.2.2; omega⟩
theorem Room.depth {A : Around} {d : Nat} (h : Room A d) : A.depth < recursionLimit := by have := h.2.1; omega
theorem Room.units {A : Around} {d : Nat} (h : Room A d) : A.units < cLine := by have := h.2.2; omega

def upd (m : Str → Option Value) (x : Str) (v : Value) : Str → Option Value := fun y => if y = x then some v else m y
theorem upd_same (m : Str → Option Value) (x : Str) (v : Value) : upd m x v x = some v := if_pos rfl
theorem upd_ne {m : Str → Option Value} {x y : Str} {v : Value} (h : y ≠ x) : upd m x v y = m y := if_neg h

/-- a def's own run: entered at s₀, its frame L with the names m, the objects D that it made; since sr only the frame and W may have been turned -/
structure Loc (w : World) (s₀ : Shared) (L : Addr) (m : Str → Option Value) (D : List (Addr × Obj)) (W : List Addr) (sr s : Shared) : Prop where
  base : Base w s₀
  fr : Fr s₀.heap L s.heap m
  led : ∀ p ∈ D, s.heap.get? p.1 = some p.2 ∧ p.1 ≠ L
  os : s.os = s₀.os
  gens : ∀ (i : Nat) (x : GenState), s₀.gens[i]? = some x → s.gens[i]? = some x
  bare : AllBare s₀.gens → AllBare s.gens
  chg : ∀ b o, b ≠ L → b ∉ W → sr.heap.get? b = some o → s.heap.get? b = some o
  sgens : ∀ (i : Nat) (x : GenState), sr.gens[i]? = some x → s.gens[i]? = some x
  sos : s.os = sr.os
  sbare : AllBare sr.gens → AllBare s.gens

section
variable {w : World} {s₀ sr s s' : Shared} {L : Addr} {m : Str → Option Value} {D : List (Addr × Obj)} {W : List Addr}

theorem Loc.tk (h : Loc w s₀ L m D W sr s) (k : Nat) : Loc w s₀ L m D W sr { s with toks := k } := ⟨h.base, h.fr, h.led, h.os, h.gens, h.bare, h.chg, h.sgens, h.sos, h.sbare⟩
theorem Loc.done (h : Loc w s₀ L m D W sr s) : Calm s₀ s := ⟨h.fr.keep, h.os, h.gens, h.bare⟩
theorem Loc.toBase (h : Loc w s₀ L m D W sr s) : Base w s := h.base.calm h.done
theorem Loc.calm (h : Loc w s₀ L m D W sr s) (c : Calm s s') : Loc w s₀ L m D W sr s' where
  base := h.base
  fr := ⟨h.fr.ns.keeps c.keep, fun b o e => c.keep b o (h.fr.keep b o e), h.fr.above⟩
  led := fun p hp => ⟨c.keep _ _ (h.led p hp).1, (h.led p hp).2⟩
  os := c.os.trans h.os
  gens := fun i x e => c.gens i x (h.gens i x e)
  bare := fun b => c.bare (h.bare b)
  chg := fun b o h1 h2 e => c.keep b o (h.chg b o h1 h2 e)
  sgens := fun i x e => c.gens i x (h.sgens i x e)
  sos := c.os.trans h.sos
  sbare := fun b => c.bare (h.sbare b)
theorem Loc.snap (h : Loc w s₀ L m D W sr s) (W' : List Addr) : Loc w s₀ L m D W' s s := ⟨h.base, h.fr, h.led, h.os, h.gens, h.bare, fun _ _ _ _ e => e, fun _ _ e => e, rfl, id⟩
theorem Loc.set (h : Loc w s₀ L m D W sr s) {x : Str} {v : Value} {h' : Heap} {k : Nat} (hn : h'.Ns L (fun y => if y = x then some v else m y)) (hs : Heap.SameBut L s.heap h') :
    Loc w s₀ L (upd m x v) D W sr { s with heap := h', toks := k } :=
  ⟨h.base, h.fr.set hn hs, fun p hp => ⟨(hs.2 p.1 (h.led p hp).2).trans (h.led p hp).1, (h.led p hp).2⟩, h.os, h.gens, h.bare, fun b o h1 h2 e => (hs.2 b h1).trans (h.chg b o h1 h2 e), h.sgens, h.sos, h.sbare⟩
theorem Loc.push (h : Loc w s₀ L m D W sr s) (o : Obj) (k : Nat) (hf : o.isFreed = false := by rfl) : Loc w s₀ L m ((s.heap.objs.size, o) :: D) W sr { s with heap := s.heap.push o, toks := k } :=
  ⟨h.base, h.fr.push o, fun p hp => (by
    rcases List.mem_cons.mp hp with rfl | hp
    · exact ⟨Heap.get?_push_size _ hf, Nat.ne_of_gt h.fr.ns.lt⟩
    · exact ⟨Heap.get?_push_of_some _ (h.led p hp).1, (h.led p hp).2⟩), h.os, h.gens, h.bare, fun b o h1 h2 e => Heap.get?_push_of_some _ (h.chg b o h1 h2 e), h.sgens, h.sos, h.sbare⟩
theorem Loc.grow (h : Loc w s₀ L m D W sr s) (o : Obj) (k : Nat) : Loc w s₀ L m D W sr { s with heap := s.heap.push o, toks := k } :=
  ⟨h.base, h.fr.push o, fun p hp => ⟨Heap.get?_push_of_some _ (h.led p hp).1, (h.led p hp).2⟩, h.os, h.gens, h.bare, fun b o h1 h2 e => Heap.get?_push_of_some _ (h.chg b o h1 h2 e), h.sgens, h.sos, h.sbare⟩
theorem Loc.sub (h : Loc w s₀ L m D W sr s) {D' : List (Addr × Obj)} (hs : ∀ p ∈ D', p ∈ D) : Loc w s₀ L m D' W sr s :=
  ⟨h.base, h.fr, fun p hp => h.led p (hs p hp), h.os, h.gens, h.bare, h.chg, h.sgens, h.sos, h.sbare⟩
theorem Loc.lt (h : Loc w s₀ L m D W sr s) : ∀ p ∈ D, p.1 < s.heap.objs.size := fun p hp => Heap.lt_size (h.led p hp).1
theorem Loc.ltL (h : Loc w s₀ L m D W sr s) : L < s.heap.objs.size := h.fr.ns.lt
theorem Loc.fresh1 (h : Loc w s₀ L m D W sr s) : ∀ p ∈ D, p.1 ≠ s.heap.objs.size := fun p hp => Nat.ne_of_lt (h.lt p hp)
theorem Loc.fresh0 (h : Loc w s₀ L m D W sr s) : s₀.heap.get? s.heap.objs.size = none := by
  cases hq : s₀.heap.get? s.heap.objs.size with
  | none => rfl
  | some o => exact absurd (Heap.lt_size (h.fr.keep _ _ hq)) (Nat.lt_irrefl _)
theorem Loc.freshL (h : Loc w s₀ L m D W sr s) : s.heap.objs.size ≠ L := Nat.ne_of_gt h.ltL
theorem Loc.get (h : Loc w s₀ L m D W sr s) {b : Addr} {o : Obj} (hm : (b, o) ∈ D) : s.heap.get? b = some o := (h.led _ hm).1
/-- a thing that stands joins the ledger -/
theorem Loc.add (h : Loc w s₀ L m D W sr s) {b : Addr} {o : Obj} (hb : s.heap.get? b = some o) (hL : b ≠ L) : Loc w s₀ L m ((b, o) :: D) W sr s :=
  ⟨h.base, h.fr, fun p hp => (by
    rcases List.mem_cons.mp hp with rfl | hp
    · exact ⟨hb, hL⟩
    · exact h.led p hp), h.os, h.gens, h.bare, h.chg, h.sgens, h.sos, h.sbare⟩
/-- an iterator's step: it turns its own things, wr -/
theorem Loc.iter (h : Loc w s₀ L m D W sr s) {wr : List Addr} {W' : List Addr} (hk : ∀ b o, b ∉ wr → s.heap.get? b = some o → s'.heap.get? b = some o) (hL : L ∉ wr)
    (hf : ∀ b ∈ wr, s₀.heap.get? b = none) (hD : ∀ p ∈ D, p.1 ∉ wr) (hos : s'.os = s.os) (hg : ∀ (i : Nat) (x : GenState), s₀.gens[i]? = some x → s'.gens[i]? = some x) (hb : AllBare s.gens → AllBare s'.gens) :
    Loc w s₀ L m D W' s' s' :=
  ⟨h.base, ⟨h.fr.ns.at' fun o e => hk _ o hL e, fun b o e => hk b o (fun hb => by rw [hf b hb] at e; cases e) (h.fr.keep b o e), h.fr.above⟩,
    fun p hp => ⟨hk _ _ (hD p hp) (h.led p hp).1, (h.led p hp).2⟩, hos.trans h.os, hg, fun b => hb (h.bare b), fun _ _ _ _ e => e, fun _ _ e => e, rfl, id⟩
/-- the same, the look back kept: what it turns is among W -/
theorem Loc.iterW (h : Loc w s₀ L m D W sr s) {wr : List Addr} (hk : ∀ b o, b ∉ wr → s.heap.get? b = some o → s'.heap.get? b = some o) (hL : L ∉ wr) (hW : ∀ b ∈ wr, b ∈ W)
    (hf : ∀ b ∈ wr, s₀.heap.get? b = none) (hD : ∀ p ∈ D, p.1 ∉ wr) (hos : s'.os = s.os) (hg : s'.gens = s.gens) :
    Loc w s₀ L m D W sr s' :=
  ⟨h.base, ⟨h.fr.ns.at' fun o e => hk _ o hL e, fun b o e => hk b o (fun hb => by rw [hf b hb] at e; cases e) (h.fr.keep b o e), h.fr.above⟩,
    fun p hp => ⟨hk _ _ (hD p hp) (h.led p hp).1, (h.led p hp).2⟩, hos.trans h.os, hg ▸ h.gens, hg ▸ h.bare, fun b o h1 h2 e => hk b o (fun q => h2 (hW b q)) (h.chg b o h1 h2 e), hg ▸ h.sgens, hos.trans h.sos, hg ▸ h.sbare⟩
/-- one list (or another thing of the call's own) is turned -/
theorem Loc.turn (h : Loc w s₀ L m D W sr s) {l : Addr} {o : Obj} {h' : Heap} {k : Nat} (hl : l ∈ W) (hL : l ≠ L) (hf : s₀.heap.get? l = none) (hD : ∀ p ∈ D, p.1 ≠ l)
    (ho : h'.get? l = some o) (hs : Heap.SameBut l s.heap h') : Loc w s₀ L m ((l, o) :: D) W sr { s with heap := h', toks := k } :=
  ⟨h.base, ⟨h.fr.ns.sameBut hs (Ne.symm hL), fun b o e => (hs.2 b (fun q => by rw [q, hf] at e; cases e)).trans (h.fr.keep b o e), h.fr.above⟩,
    fun p hp => (by
      rcases List.mem_cons.mp hp with rfl | hp
      · exact ⟨ho, hL⟩
      · exact ⟨(hs.2 _ (hD p hp)).trans (h.led p hp).1, (h.led p hp).2⟩), h.os, h.gens, h.bare,
    fun b o h1 h2 e => (hs.2 b (fun q => h2 (q ▸ hl))).trans (h.chg b o h1 h2 e), h.sgens, h.sos, h.sbare⟩
end

abbrev FF : Value → Shared → Prop := fun _ _ => False
theorem ff {α : Type} {M : Model} {A : Around} {t : Sem α} {Q : α → Shared → Prop} {E : Value → Shared → Prop} {s : Shared} (h : wpAny M A t Q FF s) : wpAny M A t Q E s :=
  wpAny_mono h (fun _ _ x => x) fun _ _ x => x.elim

/-- an object that is a list of these values -/
structure ListO (o : Obj) (vs : List Value) : Prop where
  cls : o.cls = .type "list"
  data : ∃ n, o.data = .seq vs.toArray n
structure TupO (o : Obj) (vs : List Value) : Prop where
  cls : o.cls = .type "tuple"
  data : ∃ n, o.data = .seq vs.toArray n
/-- a list that no one gave a dict -/
def LstO (o : Obj) (vs : List Value) : Prop := ∃ n, o = { cls := .type "list", data := .seq vs.toArray n }
theorem LstO.weak {o : Obj} {vs : List Value} (h : LstO o vs) : ListO o vs := let ⟨n, e⟩ := h; ⟨by rw [e], n, by rw [e]⟩
theorem ListO.is {o : Obj} {vs : List Value} (h : ListO o vs) {hp : Heap} {a : Addr} (e : hp.get? a = some o) : hp.IsList a vs.toArray := ⟨o, e, h.cls, h.data⟩
theorem TupO.is {o : Obj} {vs : List Value} (h : TupO o vs) {hp : Heap} {a : Addr} (e : hp.get? a = some o) : IsTup hp a vs.toArray := ⟨o, e, h.cls, h.data⟩
theorem ListO.free {o : Obj} {vs : List Value} (h : ListO o vs) : o.isFreed = false := let ⟨_, e⟩ := h.data; Obj.isFreed_of_seq e
theorem TupO.free {o : Obj} {vs : List Value} (h : TupO o vs) : o.isFreed = false := let ⟨_, e⟩ := h.data; Obj.isFreed_of_seq e

section
variable {w : World} {s₀ sr s : Shared} {L : Addr} {m : Str → Option Value} {D : List (Addr × Obj)} {W : List Addr}
theorem seq_ne {h : Heap} {L a : Addr} {m : Str → Option Value} {o : Obj} {vs : Array Value} {n : Nat} (hn : h.Ns L m) (ha : h.get? a = some o) (hd : o.data = .seq vs n) : a ≠ L := by
  rintro rfl
  obtain ⟨o', es, ep, ho, hd', _⟩ := hn
  rw [ha] at ho
  cases ho
  rw [hd] at hd'
  cases hd'
theorem Loc.addList (h : Loc w s₀ L m D W sr s) {b : Addr} {vs : List Value} (hb : s.heap.IsList b vs.toArray) : ∃ o, ListO o vs ∧ Loc w s₀ L m ((b, o) :: D) W sr s := by
  obtain ⟨o, ho, hc, n, hd⟩ := hb
  exact ⟨o, ⟨hc, n, hd⟩, h.add ho (seq_ne h.fr.ns ho hd)⟩
end

section
variable {w : World} {A : Around} {E : Value → Shared → Prop} {s₀ sr s : Shared} {L : Addr} {m : Str → Option Value} {D : List (Addr × Obj)} {W : List Addr} {name : Str} {scope : Scope} {a : Addr} {cd : Value} {prog : Program} {env : Env}

/-- into a def: its frame is new -/
theorem enter {d : Nat} {params : Arguments} {body : List Stmt} {pm doc oc : Value} {od : Option Addr} {osl : Array (Option Value)} {f : Addr} {args : List Value} {binds : List (Str × Value)} {Q : Value → Shared → Prop} (B : Base w s) (R : Room A d)
    (ho : (KK w).lookup f = some ⟨oc, od, .func (docDef name params body scope pm cd doc), osl⟩) (hcd : codeIn (KK w) cd name = true)
    (hbind : bindArgs (docDef name params body scope pm cd doc) ⟨args, []⟩ = pure binds) (hloc : ∀ x ∈ binds, scope.names.lookup x.1 = some .local)
    (k : ∀ L s', Loc w s L (fun x => binds.reverse.lookup x) [] [] s' s' → wpAny (model prog w) (A.deeper (envOf name scope L f cd)) (execs body (envOf name scope L f cd)) (fun fl s'' => Q (match fl with | .ret v => v | _ => .none) s'') FF s')
    (hco : scope.isCoroutine = false := by rfl) (hgen : scope.isGenerator = false := by rfl) (hk : scope.kind = .function := by rfl) (hcell : ∀ x ∈ scope.names, x.2 ≠ .cell := by decide) :
    wpAny (model prog w) A (call (.ref f) args) Q E s :=
  wpAny_call (call_plain_ret R.depth (B.k _ _ ho) rfl B.nolimit (codeRec_of B.k hcd) hbind hloc
    (fun h₁ F => k s.heap.objs.size _ ⟨B, F, fun p hp => (nomatch hp), rfl, fun _ _ e => e, id, fun _ _ _ _ e => e, fun _ _ e => e, rfl, id⟩) hco hgen hk hcell)
end

theorem g_replace (w : World) : nsIn (KK w) mainGlobals (Str.ofString "replace") = some (some (.ref 21)) := by kernel_rfl
theorem g_iter (w : World) : nsIn (KK w) mainGlobals (Str.ofString "_iter_escaped_chars") = some (some (.ref 28)) := by kernel_rfl
theorem g_strip (w : World) : nsIn (KK w) mainGlobals (Str.ofString "_strip_quoted_realnames") = some (some (.ref 35)) := by kernel_rfl
theorem g_check (w : World) : nsIn (KK w) mainGlobals (Str.ofString "_check_parenthesis") = some (some (.ref 42)) := by kernel_rfl
theorem g_box (w : World) : nsIn (KK w) mainGlobals (Str.ofString "_law_box") = some (some (.ref 49)) := by kernel_rfl
theorem g_turned (w : World) : nsIn (KK w) mainGlobals (Str.ofString "_law_turned") = some (some (.ref 54)) := by kernel_rfl
theorem g_carried (w : World) : nsIn (KK w) mainGlobals (Str.ofString "_law_carried") = some (some (.ref 61)) := by kernel_rfl
theorem g_exchanged (w : World) : nsIn (KK w) mainGlobals (Str.ofString "_law_exchanged") = some (some (.ref 68)) := by kernel_rfl
theorem g_struck (w : World) : nsIn (KK w) mainGlobals (Str.ofString "_law_struck") = some (some (.ref 75)) := by kernel_rfl
theorem g_len (w : World) : nsIn (KK w) mainGlobals (Str.ofString "len") = some none := by kernel_rfl
theorem g_range (w : World) : nsIn (KK w) mainGlobals (Str.ofString "range") = some none := by kernel_rfl
theorem g_sum (w : World) : nsIn (KK w) mainGlobals (Str.ofString "sum") = some none := by kernel_rfl
theorem g_list (w : World) : nsIn (KK w) mainGlobals (Str.ofString "list") = some none := by kernel_rfl
theorem g_enumerate (w : World) : nsIn (KK w) mainGlobals (Str.ofString "enumerate") = some none := by kernel_rfl

theorem if_t {a b : Prop} {d : Decidable (true = true)} (h : a) : @ite Prop (true = true) d a b := by rw [if_pos rfl]; exact h
theorem if_f {a b : Prop} {d : Decidable (false = true)} (h : b) : @ite Prop (false = true) d a b := by rw [if_neg Bool.false_ne_true]; exact h

section
variable {w : World} {A : Around} {E : Value → Shared → Prop} {s₀ sr s : Shared} {L : Addr} {m : Str → Option Value} {D : List (Addr × Obj)} {W : List Addr} {name : Str} {scope : Scope} {a : Addr} {cd : Value} {prog : Program} {env : Env}

theorem r_name {x : Str} {pos : Pos} {v : Value} {Q : Value → Shared → Prop} (h : Loc w s₀ L m D W sr s) (hv : m x = some v) (k : Q v s)
    (hk : scope.kind = .function := by rfl) (hl : (envOf name scope L a cd).kindOf x = some .local := by rfl) (hd : (x == ("__debug__" : Str)) = false := by decide) :
    wpAny (model prog w) A (eval (.Name x pos) (envOf name scope L a cd)) Q E s := ld h.fr hv k hk hl hd
theorem r_load {x : Str} {v : Value} {Q : Value → Shared → Prop} (h : Loc w s₀ L m D W sr s) (hv : m x = some v) (k : Q v s)
    (hk : scope.kind = .function := by rfl) (hl : (envOf name scope L a cd).kindOf x = some .local := by rfl) :
    wpAny (model prog w) A (loadName (envOf name scope L a cd) x) Q E s := ldn h.fr hv k hk hl
theorem r_global {x : Str} {pos : Pos} {v : Value} {Q : Value → Shared → Prop} (h : Loc w s₀ L m D W sr s) (e : nsIn (KK w) mainGlobals x = some (some v)) (k : Q v s)
    (hk : scope.kind = .function := by rfl) (hl : (envOf name scope L a cd).kindOf x = some .globalImplicit := by rfl) (hd : (x == ("__debug__" : Str)) = false := by decide) :
    wpAny (model prog w) A (eval (.Name x pos) (envOf name scope L a cd)) Q E s :=
  let ⟨_, _, t⟩ := h.base.t; name_K h.fr h.base.k t e k hk hl hd
theorem r_boot {x : Str} {pos : Pos} {v : Value} {Q : Value → Shared → Prop} (h : Loc w s₀ L m D W sr s) (e : nsIn (KK w) mainGlobals x = some none) (hb : bootBuiltins x = some v) (hn : x ≠ "__name__") (k : Q v s)
    (hk : scope.kind = .function := by rfl) (hl : (envOf name scope L a cd).kindOf x = some .globalImplicit := by rfl) (hd : (x == ("__debug__" : Str)) = false := by decide) :
    wpAny (model prog w) A (eval (.Name x pos) (envOf name scope L a cd)) Q E s :=
  let ⟨_, _, t⟩ := h.base.t; name_B h.fr h.base.k t e hb hn k hk hl hd
theorem r_nameC {env : Env} {x : Str} {pos : Pos} {v : Value} {Q : Value → Shared → Prop} (h : Loc w s₀ L m D W sr s) (hv : m x = some v) (k : Q v s)
    (hL : env.locals = L) (hk : env.scope.kind = .function) (hl : env.kindOf x = some .local) (hd : (x == ("__debug__" : Str)) = false) :
    wpAny (model prog w) A (eval (.Name x pos) env) Q E s := wpAny_Name (wpAny_loadName_local hk hl (hL ▸ h.fr.ns) hv k) hd
theorem r_globalC {env : Env} {x : Str} {pos : Pos} {v : Value} {Q : Value → Shared → Prop} (h : Loc w s₀ L m D W sr s) (e : nsIn (KK w) mainGlobals x = some (some v)) (k : Q v s)
    (hG : env.globals = mainGlobals) (hk : env.scope.kind = .function) (hl : env.kindOf x = some .globalImplicit) (hd : (x == ("__debug__" : Str)) = false) :
    wpAny (model prog w) A (eval (.Name x pos) env) Q E s :=
  let ⟨_, _, t⟩ := h.base.t; Calls.Name_function_global hk hl (Calls.loadGlobal_global (env := env) (hG ▸ t.g.keeps h.fr.keep) (mg_of h.base.k t.g e) k) hd
theorem r_store {x : Str} {v : Value} {Q : Unit → Shared → Prop} (h : Loc w s₀ L m D W sr s) (k : ∀ s', Loc w s₀ L (upd m x v) D W sr s' → Q () s')
    (hk : scope.kind = .function := by rfl) (hl : (envOf name scope L a cd).kindOf x = some .local := by rfl) :
    wpAny (model prog w) A (storeName (envOf name scope L a cd) x v) Q E s :=
  wpAny_storeName_local hl h.fr.ns (fun h' hn hs => k _ (h.set hn hs)) (by show (scope.kind == .class || (scope.kind == .module && L != mainGlobals)) = false; rw [hk]; rfl)
theorem r_int {env : Env} {i k pos} {Q : Value → Shared → Prop} (h : Loc w s₀ L m D W sr s) (g : ∀ t s', Loc w s₀ L m D W sr s' → Q (.int i t) s') :
    wpAny (model prog w) A (eval (.Constant (.int i) k pos) env) Q E s := wpAny_Constant_int (g _ _ (h.tk _))
theorem r_str {x : Str} {k pos} {Q : Value → Shared → Prop} (h : Loc w s₀ L m D W sr s) (g : ∀ t s', Loc w s₀ L m D W sr s' → Q (.str x t) s') :
    wpAny (model prog w) A (eval (.Constant (.str x) k pos) env) Q E s := wpAny_Constant_str (g _ _ (h.tk _))
theorem r_add_int {x y : Int} {t u : Tok} {Q : Value → Shared → Prop} (h : Loc w s₀ L m D W sr s) (g : ∀ t s', Loc w s₀ L m D W sr s' → Q (.int (x + y) t) s') :
    wpAny (model prog w) A (binaryOp .Add (.int x t) (.int y u)) Q E s := P.add_int (g _ _ (h.tk _))
theorem r_sub_int {x y : Int} {t u : Tok} {Q : Value → Shared → Prop} (h : Loc w s₀ L m D W sr s) (g : ∀ t s', Loc w s₀ L m D W sr s' → Q (.int (x - y) t) s') :
    wpAny (model prog w) A (binaryOp .Sub (.int x t) (.int y u)) Q E s := P.sub_int (g _ _ (h.tk _))
theorem r_iadd_int {x y : Int} {t u : Tok} {Q : Value → Shared → Prop} (h : Loc w s₀ L m D W sr s) (g : ∀ t s', Loc w s₀ L m D W sr s' → Q (.int (x + y) t) s') :
    wpAny (model prog w) A (inplaceOp .Add (.int x t) (.int y u)) Q E s := P.iadd_int (g _ _ (h.tk _))
theorem r_isub_int {x y : Int} {t u : Tok} {Q : Value → Shared → Prop} (h : Loc w s₀ L m D W sr s) (g : ∀ t s', Loc w s₀ L m D W sr s' → Q (.int (x - y) t) s') :
    wpAny (model prog w) A (inplaceOp .Sub (.int x t) (.int y u)) Q E s := P.isub_int (g _ _ (h.tk _))
theorem r_neg_int {x : Int} {t : Tok} {Q : Value → Shared → Prop} (h : Loc w s₀ L m D W sr s) (g : ∀ t s', Loc w s₀ L m D W sr s' → Q (.int (-x) t) s') :
    wpAny (model prog w) A (unaryOp .USub (.int x t)) Q E s := P.neg_int (g _ _ (h.tk _))
theorem r_mul_int {x y : Int} {t u : Tok} {Q : Value → Shared → Prop} (h : Loc w s₀ L m D W sr s) (hm : IntMulOk x y) (g : ∀ t s', Loc w s₀ L m D W sr s' → Q (.int (x * y) t) s') :
    wpAny (model prog w) A (binaryOp .Mult (.int x t) (.int y u)) Q E s := P.mul_int (g _ _ (h.tk _)) hm
theorem r_mod_int {x y : Int} {t u : Tok} {Q : Value → Shared → Prop} (h : Loc w s₀ L m D W sr s) (hy : y ≠ 0) (g : ∀ t s', Loc w s₀ L m D W sr s' → Q (.int (x.fmod y) t) s') :
    wpAny (model prog w) A (binaryOp .Mod (.int x t) (.int y u)) Q E s := mod_int hy (g _ _ (h.tk _))
theorem r_div_int {x y : Int} {t u : Tok} {Q : Value → Shared → Prop} (h : Loc w s₀ L m D W sr s) (hy : y ≠ 0) (hp : Builtin.divisionGoesByPylong x y = false) (g : ∀ t s', Loc w s₀ L m D W sr s' → Q (.int (x.fdiv y) t) s') :
    wpAny (model prog w) A (binaryOp .FloorDiv (.int x t) (.int y u)) Q E s := floordiv_int hy (g _ _ (h.tk _)) (.inl hp)
theorem r_add_str {x y : Str} {t u : Tok} {Q : Value → Shared → Prop} (h : Loc w s₀ L m D W sr s) (hz : x.length + y.length ≤ sizeLine) (g : ∀ t s', Loc w s₀ L m D W sr s' → Q (.str (x ++ y) t) s') :
    wpAny (model prog w) A (binaryOp .Add (.str x t) (.str y u)) Q E s := add_str (fun t' k => g _ _ (h.tk _)) hz
theorem r_mul_str {x : Str} {n : Int} {t u : Tok} {Q : Value → Shared → Prop} (h : Loc w s₀ L m D W sr s) (hok : MulOk x n) (g : ∀ t s', Loc w s₀ L m D W sr s' → Q (.str (Txt.mul x n) t) s') :
    wpAny (model prog w) A (binaryOp .Mult (.str x t) (.int n u)) Q E s := SB.mul hok fun _ _ => g _ _ (h.tk _)
theorem r_add_list {l b : Addr} {o o' : Obj} {vs us : List Value} {Q : Value → Shared → Prop} (h : Loc w s₀ L m D W sr s) (hl : (l, o) ∈ D) (ho : ListO o vs) (hb : (b, o') ∈ D) (ho' : ListO o' us) (hz : vs.length + us.length ≤ sizeLine)
    (g : ∀ r o'' s', ListO o'' (vs ++ us) → (∀ p ∈ D, p.1 ≠ r) → s₀.heap.get? r = none → Loc w s₀ L m ((r, o'') :: D) W sr s' → Q (.ref r) s') :
    wpAny (model prog w) A (binaryOp .Add (.ref l) (.ref b)) Q E s := by
  obtain ⟨⟨cls, dd, data, sl⟩, ho1, hc, n, hd⟩ := ho.is (h.get hl)
  obtain ⟨⟨cls2, dd2, data2, sl2⟩, ho2, hc2, n2, hd2⟩ := ho'.is (h.get hb)
  simp only at hc hd hc2 hd2
  subst hc hd hc2 hd2
  refine concat_meets ⟨_, ho1, rfl⟩ ⟨_, ho2, rfl⟩ noFill_list_add seq_list_add PySem.F.slot_list_add PySem.F.entry_list_add (PySem.F.args_list_add_2 _ _) (list_addW l b vs.toArray us.toArray n n2 dd dd2 sl sl2 (by simpa using hz)) ⟨ho1, ho2, ?_⟩
  rw [show vs.toArray ++ us.toArray = (vs ++ us).toArray by simp]
  exact g _ _ _ ⟨rfl, 0, rfl⟩ h.fresh1 h.fresh0 (h.push _ _)
theorem r_list {vs : List Value} {Q : Value → Shared → Prop} (h : Loc w s₀ L m D W sr s) (hz : vs.length ≤ sizeLine)
    (g : ∀ r o s', LstO o vs → (∀ p ∈ D, p.1 ≠ r) → s₀.heap.get? r = none → r ≠ L → Loc w s₀ L m ((r, o) :: D) W sr s' → Q (.ref r) s') : wpAny (model prog w) A (newList vs) Q E s :=
  wpAny_newObj_type (g _ _ _ ⟨0, rfl⟩ h.fresh1 h.fresh0 h.freshL (h.push _ s.toks)) (by show vs.toArray.size ≤ sizeLine; rw [List.size_toArray]; exact hz)
theorem r_tuple {vs : List Value} {Q : Value → Shared → Prop} (h : Loc w s₀ L m D W sr s) (hz : vs.length ≤ sizeLine)
    (g : ∀ r o s', TupO o vs → (∀ p ∈ D, p.1 ≠ r) → Loc w s₀ L m ((r, o) :: D) W sr s' → Q (.ref r) s') : wpAny (model prog w) A (newTuple vs) Q E s :=
  wpAny_newObj_type (g _ _ _ ⟨rfl, 0, rfl⟩ h.fresh1 (h.push _ s.toks)) (by show vs.toArray.size ≤ sizeLine; rw [List.size_toArray]; exact hz)
theorem r_append {l : Addr} {o : Obj} {vs : List Value} {x : Value} {Q : Value → Shared → Prop} (h : Loc w s₀ L m ((l, o) :: D) W sr s) (ho : LstO o vs) (hW : l ∈ W) (hf : s₀.heap.get? l = none) (hD : ∀ p ∈ D, p.1 ≠ l) (hz : vs.length ≤ sizeLine)
    (g : ∀ o' s', LstO o' (vs ++ [x]) → Loc w s₀ L m ((l, o') :: D) W sr s' → Q .none s') : wpAny (model prog w) A (call (.builtin "list.append") [.ref l, x]) Q E s := by
  obtain ⟨n, rfl⟩ := ho
  refine wpAny_list_append_plain ⟨n, h.get (.head _)⟩ (fun h' hl hs => ?_) (by simpa using hz)
  obtain ⟨n', e⟩ := hl
  exact g _ _ ⟨n', by simp⟩ ((h.sub fun p hp => .tail _ hp).turn hW (h.led _ (.head _)).2 hf hD e hs (k := s.toks))
theorem r_getappend {l : Addr} {o : Obj} {vs : List Value} {pl : Sem Bool} {Q : Value × List Value → Shared → Prop} (h : Loc w s₀ L m D W sr s) (hl : (l, o) ∈ D) (ho : LstO o vs) (g : Q (.builtin "list.append", [.ref l]) s) :
    wpAny (model prog w) A (getMethod (.ref l) (Str.ofString "append") pl) Q E s := by
  obtain ⟨n, rfl⟩ := ho
  exact getMethod_list_append (h.get hl) rfl rfl g
theorem r_getpop {l : Addr} {o : Obj} {vs : List Value} {pl : Sem Bool} {Q : Value × List Value → Shared → Prop} (h : Loc w s₀ L m D W sr s) (hl : (l, o) ∈ D) (ho : LstO o vs) (g : Q (.builtin "list.pop", [.ref l]) s) :
    wpAny (model prog w) A (getMethod (.ref l) (Str.ofString "pop") pl) Q E s := by
  obtain ⟨n, rfl⟩ := ho
  exact getMethod_builtin ⟨_, h.get hl, rfl⟩ PySem.F.plainAttrs_list PySem.F.slot_list_pop PySem.F.type_list_pop (fun a e => by cases e; exact ⟨_, h.get hl, rfl⟩) g
theorem r_pop {l : Addr} {o : Obj} {vs : List Value} {x : Value} {Q : Value → Shared → Prop} (h : Loc w s₀ L m ((l, o) :: D) W sr s) (ho : LstO o (vs ++ [x])) (hW : l ∈ W) (hf : s₀.heap.get? l = none) (hD : ∀ p ∈ D, p.1 ≠ l) (hz : vs.length + 1 ≤ sizeLine)
    (g : ∀ o' s', LstO o' vs → Loc w s₀ L m ((l, o') :: D) W sr s' → Q x s') : wpAny (model prog w) A (call (.builtin "list.pop") [.ref l]) Q E s := by
  obtain ⟨n, rfl⟩ := ho
  have hk : (vs ++ [x]).toArray.size - 1 = vs.length := by rw [List.size_toArray, List.length_append]; rfl
  have hy : (vs ++ [x]).toArray[(vs ++ [x]).toArray.size - 1]? = some x := by rw [hk]; simp
  refine call_meets PySem.F.slot_list_pop ⟨_, h.get (.head _), rfl⟩ PySem.F.entry_list_pop (PySem.F.args_list_pop_1 _) (PySem.MeetsSeq.list_pop_last l _ n x hy (by rw [List.size_toArray, List.length_append]; exact hz)) ⟨h.get (.head _), ?_⟩
  have q := PySem.IsL.update (h.get (.head _)) (fun a => a.eraseIdxIfInBounds ((vs ++ [x]).toArray.size - 1))
  have he : (vs ++ [x]).toArray.eraseIdxIfInBounds ((vs ++ [x]).toArray.size - 1) = vs.toArray := by rw [hk]; simpa using kl_erase vs [] x
  exact g _ _ ⟨_, by rw [he]⟩ ((h.sub fun p hp => .tail _ hp).turn hW (h.led _ (.head _)).2 hf hD q (Heap.SameBut.update ..) (k := s.toks))
theorem r_list_slice_is {l : Addr} {vs : List Value} {vl vu vt : Value} {lo hi st : Option Int} {value slice : Expr} {ops : List Value} {Q : Value → Shared → Prop} (h : Loc w s₀ L m D W sr s) (hl : s.heap.IsList l vs.toArray)
    (pl : IsPart vl lo) (pu : IsPart vu hi) (ps : IsPart vt st) (h0 : st ≠ some 0) (hz : vs.length ≤ sizeLine)
    (g : ∀ r o' s', ListO o' (slicePick vs.toArray lo hi st).toList → (∀ p ∈ D, p.1 ≠ r) → s₀.heap.get? r = none → Loc w s₀ L m ((r, o') :: D) W sr s' → Q (.ref r) s')
    (hs : subscripted slice false (.ref l) (.ref s.heap.objs.size) = operate ops (getItem (.ref l) (.ref s.heap.objs.size)) := by with_unfolding_all rfl) :
    wpAny (model prog w) A (subscriptTail value slice (.ref l) (.ref s.heap.objs.size)) Q E { s with heap := s.heap.push { cls := .type "slice", data := .fields #[vl, vu, vt] } } := by
  have h1 := h.push { cls := .type "slice", data := .fields #[vl, vu, vt] } s.toks
  refine tail_any (Heap.IsList.typeIs (s := { s with heap := s.heap.push { cls := .type "slice", data := .fields #[vl, vu, vt] } }) (hl.push _)) list_getitem_lookup
    (wpAny_getItem_list_slice (hl.push _) (Heap.IsSliceOf.new ..) pl pu ps h0 ?_ (by simpa using hz)) hs
  exact g _ ({ cls := .type "list", data := .seq (slicePick vs.toArray lo hi st) } : Obj) _ ⟨rfl, 0, by simp⟩ (fun p hp => h1.fresh1 p (.tail _ hp)) h1.fresh0 ((h1.push _ _).sub (by
    intro p hp
    rcases List.mem_cons.mp hp with rfl | hp
    · exact .head _
    · exact .tail _ (.tail _ hp)))
theorem r_list_slice {l : Addr} {o : Obj} {vs : List Value} {vl vu vt : Value} {lo hi st : Option Int} {value slice : Expr} {ops : List Value} {Q : Value → Shared → Prop} (h : Loc w s₀ L m D W sr s) (hl : (l, o) ∈ D) (ho : ListO o vs)
    (pl : IsPart vl lo) (pu : IsPart vu hi) (ps : IsPart vt st) (h0 : st ≠ some 0) (hz : vs.length ≤ sizeLine)
    (g : ∀ r o' s', ListO o' (slicePick vs.toArray lo hi st).toList → (∀ p ∈ D, p.1 ≠ r) → s₀.heap.get? r = none → Loc w s₀ L m ((r, o') :: D) W sr s' → Q (.ref r) s')
    (hs : subscripted slice false (.ref l) (.ref s.heap.objs.size) = operate ops (getItem (.ref l) (.ref s.heap.objs.size)) := by with_unfolding_all rfl) :
    wpAny (model prog w) A (subscriptTail value slice (.ref l) (.ref s.heap.objs.size)) Q E { s with heap := s.heap.push { cls := .type "slice", data := .fields #[vl, vu, vt] } } :=
  r_list_slice_is h (ho.is (h.get hl)) pl pu ps h0 hz g hs
theorem r_tuple_from {l : Addr} {o : Obj} {vs : List Value} {k : Nat} {u : Tok} {value slice : Expr} {Q : Value → Shared → Prop} (h : Loc w s₀ L m D W sr s) (hl : (l, o) ∈ D) (ho : TupO o vs)
    (h1 : 1 ≤ k) (hk : k ≤ vs.length) (hz : vs.length ≤ sizeLine)
    (g : ∀ r o' s', TupO o' (vs.drop k) → Loc w s₀ L m ((r, o') :: D) W sr s' → Q (.ref r) s')
    (hs : subscripted slice false (.ref l) (.ref s.heap.objs.size) = operate [.ref s.heap.objs.size, .ref l] (getItem (.ref l) (.ref s.heap.objs.size)) := by with_unfolding_all rfl) :
    wpAny (model prog w) A (subscriptTail value slice (.ref l) (.ref s.heap.objs.size)) Q E { s with heap := s.heap.push { cls := .type "slice", data := .fields #[.int (k : Int) u, .none, .none] } } := by
  have h2 := h.push { cls := .type "slice", data := .fields #[.int (k : Int) u, .none, .none] } s.toks
  refine tail_any (s := { s with heap := s.heap.push { cls := .type "slice", data := .fields #[.int (k : Int) u, .none, .none] } }) ((ho.is (h.get hl)).push _).typeIs slot_tuple_getitem.lookup
    (getItem_tuple_from ((ho.is (h.get hl)).push _) (Heap.IsSliceOf.new ..) h1 (by simpa using hk) ?_ (by simpa using hz)) hs
  exact g _ ({ cls := .type "tuple", data := .seq (vs.drop k).toArray } : Obj) _ ⟨rfl, 0, rfl⟩ ((h2.push _ _).sub (by
    intro p hp
    rcases List.mem_cons.mp hp with rfl | hp
    · exact .head _
    · exact .tail _ (.tail _ hp)))
theorem r_str_item {x : Str} {t u : Tok} {i : Int} {value slice : Expr} {Q : Value → Shared → Prop} (h : Loc w s₀ L m D W sr s) (hr : fitsSsize i = true) (h1 : -(x.length : Int) ≤ i) (h2 : i < x.length)
    (g : ∀ t s', Loc w s₀ L m D W sr s' → Q (.str (Txt.item x i) t) s')
    (hs : subscripted slice false (.str x t) (.int i u) = operate [.str x t, .int i u] (getItem (.str x t) (.int i u)) := by with_unfolding_all rfl)
    (ht : ∀ r, letTemporaryGo value (.str x t) r = pure () := by intro _; with_unfolding_all rfl) :
    wpAny (model prog w) A (subscriptTail value slice (.str x t) (.int i u)) Q E s := item_str hr h1 h2 (fun _ => g _ _ (h.tk _)) hs ht
theorem r_str_from {x : Str} {t : Tok} {i : Int} {ui : Tok} {value slice : Expr} {Q : Value → Shared → Prop} (h : Loc w s₀ L m D W sr s) (hz : x.length ≤ sizeLine)
    (g : ∀ t s', Loc w s₀ L m D W sr s' → Q (.str (Txt.slice x (some i) none) t) s')
    (hs : subscripted slice false (.str x t) (.ref s.heap.objs.size) = operate [.ref s.heap.objs.size, .str x t] (getItem (.str x t) (.ref s.heap.objs.size)) := by with_unfolding_all rfl)
    (ht : ∀ r, letTemporaryGo value (.str x t) r = pure () := by intro _; with_unfolding_all rfl) :
    wpAny (model prog w) A (subscriptTail value slice (.str x t) (.ref s.heap.objs.size)) Q E { s with heap := s.heap.push { cls := .type "slice", data := .fields #[.int i ui, .none, .none] } } :=
  tail_of_ItemOn ⟨"str", _, F.slot_str_getitem.lookup, typeIs_str _ _ _, wpAny_getItem_str_slice (l := some (i, ui)) (u := none) (st := none) ⟨_, Heap.get?_push_size _ rfl, rfl, rfl⟩ rfl
    (post_val_or_str ⟨Nat.le_trans (Txt.slice_le x _ _) hz, fun t' k => g t' _ ((h.push _ k).sub fun p hp => .tail _ hp)⟩)⟩ hs ht
theorem r_str_cut {x : Str} {t : Tok} {i j : Int} {ui uj : Tok} {value slice : Expr} {Q : Value → Shared → Prop} (h : Loc w s₀ L m D W sr s) (hz : x.length ≤ sizeLine)
    (g : ∀ t s', Loc w s₀ L m D W sr s' → Q (.str (Txt.slice x (some i) (some j)) t) s')
    (hs : subscripted slice false (.str x t) (.ref s.heap.objs.size) = operate [.ref s.heap.objs.size, .str x t] (getItem (.str x t) (.ref s.heap.objs.size)) := by with_unfolding_all rfl)
    (ht : ∀ r, letTemporaryGo value (.str x t) r = pure () := by intro _; with_unfolding_all rfl) :
    wpAny (model prog w) A (subscriptTail value slice (.str x t) (.ref s.heap.objs.size)) Q E { s with heap := s.heap.push { cls := .type "slice", data := .fields #[.int i ui, .int j uj, .none] } } :=
  tail_of_ItemOn ⟨"str", _, F.slot_str_getitem.lookup, typeIs_str _ _ _, wpAny_getItem_str_slice (l := some (i, ui)) (u := some (j, uj)) (st := none) ⟨_, Heap.get?_push_size _ rfl, rfl, rfl⟩ rfl
    (post_val_or_str ⟨Nat.le_trans (Txt.slice_le x _ _) hz, fun t' k => g t' _ ((h.push _ k).sub fun p hp => .tail _ hp)⟩)⟩ hs ht
theorem r_tuple_item {l : Addr} {o : Obj} {vs : List Value} {k : Int} {u : Tok} {j : Nat} {x : Value} {value slice : Expr} {Q : Value → Shared → Prop} (h : Loc w s₀ L m D W sr s) (hl : (l, o) ∈ D) (ho : TupO o vs)
    (hlo : -(2 ^ 63) ≤ k) (hhi : k < 2 ^ 63) (hj : seqIndex? k vs.length = some j) (hx : vs[j]? = some x) (g : Q x s)
    (hs : subscripted slice false (.ref l) (.int k u) = operate [.ref l, .int k u] (getItem (.ref l) (.int k u)) := by with_unfolding_all rfl) :
    wpAny (model prog w) A (subscriptTail value slice (.ref l) (.int k u)) Q E s := item_tupleT (ho.is (h.get hl)) hlo hhi hj hx g hs
theorem r_list_item {l : Addr} {o : Obj} {vs : List Value} {k : Int} {u : Tok} {x : Value} {value slice : Expr} {Q : Value → Shared → Prop} (h : Loc w s₀ L m D W sr s) (hl : (l, o) ∈ D) (ho : ListO o vs)
    (h0 : 0 ≤ k) (hfit : k < 2 ^ 63) (hx : vs[k.toNat]? = some x) (g : Q x s)
    (hs : subscripted slice false (.ref l) (.int k u) = operate [.ref l, .int k u] (getItem (.ref l) (.int k u)) := by with_unfolding_all rfl) :
    wpAny (model prog w) A (subscriptTail value slice (.ref l) (.int k u)) Q E s := tail_any (ho.is (h.get hl)).typeIs slot_list_getitem.lookup (wpAny_getItem_list (x := x) (ho.is (h.get hl)) h0 hfit (by simpa using hx) g) hs
theorem r_len_list {l : Addr} {o : Obj} {vs : List Value} {Q : Value → Shared → Prop} (h : Loc w s₀ L m D W sr s) (hl : (l, o) ∈ D) (ho : ListO o vs) (hz : vs.length ≤ sizeLine) (g : ∀ t s', Loc w s₀ L m D W sr s' → Q (.int vs.length t) s') :
    wpAny (model prog w) A (call (.builtin "len") [.ref l]) Q E s := by
  refine len_list (ho.is (h.get hl)) (by rw [List.size_toArray]; have := sizeLine_eq; omega) ?_
  rw [List.size_toArray]
  exact g _ _ (h.tk _)
theorem r_len_str {x : Str} {t : Tok} {Q : Value → Shared → Prop} (h : Loc w s₀ L m D W sr s) (hz : x.length ≤ sizeLine) (g : ∀ t s', Loc w s₀ L m D W sr s' → Q (.int x.length t) s') :
    wpAny (model prog w) A (call (.builtin "len") [.str x t]) Q E s := P.len_str (by have := sizeLine_eq; omega) (g _ _ (h.tk _))
theorem r_truthy_tuple {l : Addr} {o : Obj} {vs : List Value} {Q : Bool → Shared → Prop} (h : Loc w s₀ L m D W sr s) (hl : (l, o) ∈ D) (ho : TupO o vs) (hz : vs.length ≤ sizeLine) (g : ∀ s', Loc w s₀ L m D W sr s' → Q (!vs.isEmpty) s') :
    wpAny (model prog w) A (truthy (.ref l)) Q E s := by
  refine truthy_tuple (ho.is (h.get hl)) (by rw [List.size_toArray]; have := sizeLine_eq; omega) ?_
  rw [show vs.toArray.isEmpty = vs.isEmpty by simp]
  exact g _ (h.tk _)
theorem r_callWith {pos : Pos} {f : Addr} {e : Expr} {rest : List Expr} {Q : Value → Shared → Prop} (h : wpAny (model prog w) A (spliced (backTo pos (starEach (e :: rest) env))) (fun vs s₁ => (∃ o fd, s₁.heap.get? f = some o ∧ o.data = .func fd) ∧ wpAny (model prog w) A (call (.ref f) vs) Q E s₁) E s)
    (he : starEach (e :: rest) env = (false, eval e env) :: starEach rest env) (hp : (backTo pos (starEach rest env)).any (·.1) = false) :
    wpAny (model prog w) A (callWith pos (.ref f) [] (backTo pos (starEach (e :: rest) env)) []) Q E s := by
  rw [he] at h ⊢
  refine callWith_of (P := fun h => ∃ o fd, h.get? f = some o ∧ o.data = .func fd) (by show ((false || (backTo pos (starEach rest env)).any (·.1)) || false) = false; rw [hp]; rfl) (fun hp ⟨o, fd, ho, hd⟩ => ⟨.frame, .inl rfl, ?_⟩) (evalArgs_plain h)
  refine (Looks.ld (part := none) ho).andThen ?_
  rw [hd]
  exact .now
theorem r_fn {f : Addr} {oc doc pm cdv : Value} {od : Option Addr} {osl : Array (Option Value)} {nm : Str} {params : Arguments} {body : List Stmt} {sc : Scope} (h : Loc w s₀ L m D W sr s)
    (ho : (KK w).lookup f = some ⟨oc, od, .func (docDef nm params body sc pm cdv doc), osl⟩) : ∃ o fd, s.heap.get? f = some o ∧ o.data = .func fd := ⟨_, _, h.toBase.k _ _ ho, rfl⟩
theorem r_usub {e : Expr} {pos : Pos} {Q : Value → Shared → Prop} (h : wpAny (model prog w) A (eval e env) (fun v s₁ => wpAny (model prog w) A (unaryOp .USub v) Q E s₁) E s) :
    wpAny (model prog w) A (eval (.UnaryOp .USub e pos) env) Q E s := UnaryOp_ h
theorem calm_heap {s : Shared} {h' : Heap} {k : Nat} (hk : ∀ b o, s.heap.get? b = some o → h'.get? b = some o) : Calm s { s with heap := h', toks := k } := ⟨hk, rfl, fun _ _ h => h, id⟩
theorem r_unpack2 {T : Addr} {o : Obj} {v1 v2 : Value} {x1 x2 : Str} {p1 p2 pos : Pos} {k : Nat} {Q : Unit → Shared → Prop} (h : Loc w s₀ L m D W sr s) (hh : A.handled = none) (hT : (T, o) ∈ D) (ho : TupO o [v1, v2])
    (g : ∀ s', Loc w s₀ L (upd (upd m x1 v1) x2 v2) D W sr s' → Q () s') (hk : scope.kind = .function := by rfl) (hl1 : (envOf name scope L a cd).kindOf x1 = some .local := by rfl) (hl2 : (envOf name scope L a cd).kindOf x2 = some .local := by rfl) :
    wpAny (model prog w) A (assign (.Tuple [.Name x1 p1, .Name x2 p2] k pos) (envOf name scope L a cd) (.ref T)) Q E s := by
  refine wpAny_assign_Tuple hh (ho.is (h.get hT)) rfl rfl fun h₃ hx₃ => ?_
  have hC : Calm s { s with heap := h₃ } := calm_heap (k := s.toks) fun b o e => hx₃ b o (Nat.ne_of_lt (Heap.lt_size e)) e
  have h3 := h.calm hC
  show wpAny _ A (do holding [v2] (assign (.Name x1 p1) (envOf name scope L a cd) v1); do holding [] (assign (.Name x2 p2) (envOf name scope L a cd) v2); pure ()) _ _ _
  refine wpAny_bind (wpAny_holding (wpAny_assign_Name (r_store h3 (fun s4 h4 => ?_) hk hl1)))
  refine wpAny_bind (wpAny_holding (wpAny_assign_Name (r_store h4 (fun s5 h5 => wpAny_pure (g s5 h5)) hk hl2)))
theorem r_split {x y : Str} {t u : Tok} {Q : Value → Shared → Prop} (h : Loc w s₀ L m D W sr s) (hy : (y.length == 0) = false) (hz : x.length + 2 ≤ sizeLine)
    (g : ∀ r o l s', ListO o (strValues l) → l.map (·.1) = Txt.split x y → r ≠ L → Loc w s₀ L m ((r, o) :: D) W sr s' → Q (.ref r) s') :
    wpAny (model prog w) A (call (.builtin "str.split") [.str x t, .str y u]) Q E s := by
  refine SCG.split1 (Fm := Loc w s₀ L m D W sr) (fun s' o k h' => h'.grow o k) h hy (fun r l s' e h' hl => ?_) (by omega) ?_
  · obtain ⟨o, ho, h''⟩ := h'.addList hl
    exact g r o l s' ho e (h''.led _ (.head _)).2 h''
  · rw [len_partsBetween]
    have := StrLaws.occ_length_le x y 0 x.length (x.length + 1)
    omega
theorem r_join {x : Str} {t : Tok} {r : Addr} {o : Obj} {l : List (Str × Tok)} {Q : Value → Shared → Prop} (h : Loc w s₀ L m D W sr s) (hr : (r, o) ∈ D) (ho : ListO o (strValues l)) (hok : JoinOk x (l.map (·.1)) = true)
    (g : ∀ t s', Loc w s₀ L m D W sr s' → Q (.str (Txt.join x (l.map (·.1))) t) s') : wpAny (model prog w) A (call (.builtin "str.join") [.str x t, .ref r]) Q E s :=
  SC.join (ho.is (h.get hr)) rfl hok fun t' k => g _ _ (h.tk _)
end

-- a name's value
local macro_rules | `(tactic| walk_at "lk") => `(tactic| first
  | with_reducible exact upd_same _ _ _
  | with_reducible assumption
  | (with_reducible refine Eq.trans (upd_ne ?_) ?_; (with_reducible show ¬ _); decide; walk_at "lk")
  | rfl)
-- a thing of the ledger
local macro_rules | `(tactic| walk_at "mem") => `(tactic| first
  | with_reducible exact List.mem_cons_self
  | (with_reducible refine List.mem_cons_of_mem _ ?_; walk_at "mem"))
local macro_rules | `(tactic| walk_at "sz") => `(tactic| first | assumption | (simp only [sizeLine_eq, List.length_cons, List.length_nil, List.length_append, Str.length_append] at *; omega) | decide)

local macro_rules | `(tactic| walk_at "pm eval") => `(tactic| first
  | ((with_reducible show wpAny _ _ (eval (Expr.Name _ _) _) _ _ _); first
      | ((with_reducible refine' r_name ?h ?lk ?_ ?hk ?hl ?hd); (case h => with_reducible assumption); (case lk => walk_at "lk"); (case hk => rfl); (case hl => rfl); (case hd => decide))
      | ((with_reducible refine' r_global ?h ?lk ?_ ?hk ?hl ?hd); (case h => with_reducible assumption); (case lk => with_reducible first | exact g_replace _ | exact g_iter _ | exact g_strip _ | exact g_check _ | exact g_box _ | exact g_turned _ | exact g_carried _ | exact g_exchanged _ | exact g_struck _); (case hk => rfl); (case hl => rfl); (case hd => decide))
      | ((with_reducible refine' r_boot ?h ?lk ?hb ?hn ?_ ?hk ?hl ?hd); (case h => with_reducible assumption); (case lk => with_reducible first | exact g_len _ | exact g_range _ | exact g_sum _ | exact g_list _ | exact g_enumerate _); (case hb => with_reducible first | exact boot_len | exact boot_range | exact boot_sum | exact boot_list | exact boot_enumerate); (case hn => decide); (case hk => rfl); (case hl => rfl); (case hd => decide))
      | ((with_reducible refine' r_nameC ?h ?lk ?_ ?hL ?hk ?hl ?hd); (case h => with_reducible assumption); (case lk => walk_at "lk"); (case hL => rfl); (case hk => rfl); (case hl => rfl); (case hd => decide))
      | ((with_reducible refine' r_globalC ?h ?lk ?_ ?hG ?hk ?hl ?hd); (case h => with_reducible assumption); (case lk => with_reducible exact g_box _); (case hG => rfl); (case hk => rfl); (case hl => rfl); (case hd => decide)))
  | ((with_reducible show wpAny _ _ (eval (Expr.Constant (Const.int _) _ _) _) _ _ _); (with_reducible refine' r_int ?h ?_); (case h => with_reducible assumption); intro _ _ _)
  | ((with_reducible show wpAny _ _ (eval (Expr.Constant (Const.str _) _ _) _) _ _ _); (with_reducible refine' r_str ?h ?_); (case h => with_reducible assumption); intro _ _ _)
  | ((with_reducible show wpAny _ _ (eval (Expr.Constant (Const.bool _) _ _) _) _ _ _); with_reducible refine wpAny_Constant_bool ?_)
  | ((with_reducible show wpAny _ _ (eval (Expr.Constant (Const.none) _ _) _) _ _ _); with_reducible refine wpAny_Constant_none ?_)
  | ((with_reducible show wpAny _ _ (eval (Expr.BinOp _ _ _ _) _) _ _ _); with_reducible refine wpAny_BinOp ?_)
  | ((with_reducible show wpAny _ _ (eval (Expr.Compare _ [_] [_] _) _) _ _ _); (with_reducible refine' wpAny_Compare1 ?_ ?hm); (case hm => with_unfolding_all rfl))
  | ((with_reducible show wpAny _ _ (eval (Expr.Subscript _ _ _) _) _ _ _); with_reducible refine Subscript_ ?_)
  | ((with_reducible show wpAny _ _ (eval (Expr.Slice _ _ _ _) _) _ _ _); with_reducible refine wpAny_Slice ?_)
  | ((with_reducible show wpAny _ _ (eval (Expr.Tuple _ _ _) _) _ _ _); with_reducible refine Tuple_ ?_)
  | ((with_reducible show wpAny _ _ (eval (Expr.List _ _) _) _ _ _); with_reducible refine List_ ?_)
  | ((with_reducible show wpAny _ _ (eval (Expr.IfExp _ _ _ _) _) _ _ _); with_reducible refine IfExp_ ?_)
  | ((with_reducible show wpAny _ _ (eval (Expr.UnaryOp UnaryOp.USub _ _) _) _ _ _); (with_reducible refine' r_usub ?_))
  | ((with_reducible show wpAny _ _ (eval (Expr.Call (Expr.Attribute _ _ _) _ [] _) _) _ _ _); (with_reducible refine' MethodCall_ ?_ ?he); (case he => rfl))
  | ((with_reducible show wpAny _ _ (eval (Expr.Call (Expr.Name _ _) _ [] _) _) _ _ _); (with_reducible refine' Call_ ?_ ?he); (case he => rfl))
  | ((with_reducible show wpAny _ _ (evalPart none _) _ _ _); with_reducible refine evalPart_none_step ?_)
  | ((with_reducible show wpAny _ _ (evalPart (some _) _) _ _ _); with_reducible refine evalPart_some_step ?_))

local macro_rules | `(tactic| walk_at "pm exec") => `(tactic| first
  | ((with_reducible show wpAny _ _ (execs [] _) _ _ _); with_reducible refine wpAny_execs_nil ?_)
  | ((with_reducible show wpAny _ _ (execs (_ :: _) _) _ _ _); with_reducible refine wpAny_execs_cons ?_)
  | ((with_reducible show wpAny _ _ (exec (Stmt.Return (some _) _) _) _ _ _); with_reducible refine wpAny_Return_some ?_)
  | ((with_reducible show wpAny _ _ (exec (Stmt.If _ _ _ _) _) _ _ _); with_reducible refine wpAny_If ?_)
  | ((with_reducible show wpAny _ _ (exec (Stmt.Assign [Expr.Name _ _] _ _) _) _ _ _); (with_reducible refine' wpAny_Assign_Name ?_ ?hs); (case hs => rfl))
  | ((with_reducible show wpAny _ _ (exec (Stmt.AugAssign (Expr.Name _ _) _ _ _) _) _ _ _); with_reducible refine wpAny_AugAssign_Name ?_)
  | ((with_reducible show wpAny _ _ (storeName _ _ _) _ _ _); (with_reducible refine' r_store ?h ?_ ?hk ?hl); (case h => with_reducible assumption); (case hk => rfl); (case hl => rfl); intro _ _)
  | ((with_reducible show wpAny _ _ (loadName _ _) _ _ _); (with_reducible refine' r_load ?h ?lk ?_ ?hk ?hl); (case h => with_reducible assumption); (case lk => walk_at "lk"); (case hk => rfl); (case hl => rfl))
  | ((with_reducible show wpAny _ _ (isTrue (Expr.Compare _ [_] [_] _) _ _) _ _ _); (with_reducible refine' wpAny_isTrue_Compare1 ?_ ?hm); (case hm => with_unfolding_all rfl))
  | ((with_reducible show wpAny _ _ (isTrue (Expr.BoolOp BoolOp.Or (_ :: _) _) _ _) _ _ _); with_reducible refine isTrue_or ?_)
  | ((with_reducible show wpAny _ _ (isTrue (Expr.BoolOp BoolOp.Or [] _) _ _) _ _ _); with_reducible refine isTrue_or_nil ?_)
  | ((with_reducible show wpAny _ _ (isTrue (Expr.BoolOp BoolOp.And (_ :: _) _) _ _) _ _ _); with_reducible refine isTrue_and ?_)
  | ((with_reducible show wpAny _ _ (isTrue (Expr.BoolOp BoolOp.And [] _) _ _) _ _ _); with_reducible refine isTrue_and_nil ?_)
  | ((with_reducible show wpAny _ _ (isTrue (Expr.Name _ _) _ _) _ _ _); (with_reducible refine' isTrue_plain ?_ ?he); (case he => rfl))
  | ((with_reducible show wpAny _ _ (truthy (Value.bool _)) _ _ _); with_reducible refine wpAny_truthy_bool ?_)
  | ((with_reducible show wpAny _ _ (spliced (backTo _ (starEach [] _))) _ _ _); with_reducible refine args_nil ?_)
  | ((with_reducible show wpAny _ _ (spliced (backTo _ (starEach (_ :: _) _))) _ _ _); (with_reducible refine' args_cons ?_ ?he); (case he => rfl))
  | ((with_reducible show wpAny _ _ (newTuple _) _ _ _); (with_reducible refine' r_tuple ?h ?hz ?_); (case h => with_reducible assumption); (case hz => walk_at "sz"); intro _ _ _ _ _ _)
  | ((with_reducible show wpAny _ _ (newList _) _ _ _); (with_reducible refine' r_list ?h ?hz ?_); (case h => with_reducible assumption); (case hz => walk_at "sz"); intro _ _ _ _ _ _ _ _)
  | ((with_reducible show wpAny _ _ (callWith _ (Value.builtin _) _ (backTo _ (starEach [] _)) []) _ _ _); with_reducible refine callWith_method0 ?_)
  | ((with_reducible show wpAny _ _ (callWith _ (Value.builtin _) _ (backTo _ (starEach (_ :: _) _)) []) _ _ _); (with_reducible refine' callWith_method1 ?_ ?he ?hp); (case he => rfl); (case hp => rfl))
  | ((with_reducible show wpAny _ _ (callWith _ (Value.type _) _ (backTo _ (starEach (_ :: _) _)) []) _ _ _); (with_reducible refine' PyProof.Rows.callWith_type1 ?_ ?he ?hp); (case he => rfl); (case hp => rfl))
  | ((with_reducible show wpAny _ _ (callWith _ (Value.ref _) _ (backTo _ (starEach (_ :: _) _)) []) _ _ _); (with_reducible refine' r_callWith ?_ ?he ?hp); (case he => rfl); (case hp => rfl))
  | ((with_reducible show wpAny _ _ (getMethod (Value.str _ _) (Str.ofString "split") _) _ _ _); with_reducible refine GM.split ?_)
  | ((with_reducible show wpAny _ _ (exec (Stmt.Expr _ _) _) _ _ _); (with_reducible refine' wpAny_Expr ?_ ?hi ?hs); (case hi => rfl); (case hs => rfl))
  | ((with_reducible show wpAny _ _ (exec (Stmt.Continue _) _) _ _ _); with_reducible refine wpAny_Continue ?_)
  | ((with_reducible show wpAny _ _ (exec (Stmt.Break _) _) _ _ _); with_reducible refine wpAny_Break ?_)
  | ((with_reducible show wpAny _ _ (getMethod (Value.ref _) (Str.ofString "append") _) _ _ _); (with_reducible refine' r_getappend ?h ?hl ?ho ?_); (case h => with_reducible assumption); (case hl => walk_at "mem"); (case ho => with_reducible assumption))
  | ((with_reducible show wpAny _ _ (getMethod (Value.str _ _) (Str.ofString "join") _) _ _ _); with_reducible refine GM.join ?_))

local macro_rules | `(tactic| walk_at "pm op") => `(tactic| first
  | ((with_reducible show wpAny _ _ (binaryOp Operator.Add (Value.int _ _) (Value.int _ _)) _ _ _); (with_reducible refine' r_add_int ?h ?_); (case h => with_reducible assumption); intro _ _ _)
  | ((with_reducible show wpAny _ _ (binaryOp Operator.Sub (Value.int _ _) (Value.int _ _)) _ _ _); (with_reducible refine' r_sub_int ?h ?_); (case h => with_reducible assumption); intro _ _ _)
  | ((with_reducible show wpAny _ _ (binaryOp Operator.Mod (Value.int _ _) (Value.int _ _)) _ _ _); (with_reducible refine' r_mod_int ?h ?hn ?_); (case h => with_reducible assumption); (case hn => decide); intro _ _ _)
  | ((with_reducible show wpAny _ _ (binaryOp Operator.FloorDiv (Value.int _ _) (Value.int _ _)) _ _ _); (with_reducible refine' r_div_int ?h ?hn ?hp ?_); (case h => with_reducible assumption); (case hn => decide); (case hp => exact PyProof.noPylong_of_log2 (by decide +kernel)); intro _ _ _)
  | ((with_reducible show wpAny _ _ (binaryOp Operator.Add (Value.str _ _) (Value.str _ _)) _ _ _); (with_reducible refine' r_add_str ?h ?hz ?_); (case h => with_reducible assumption); (case hz => walk_at "sz"); intro _ _ _)
  | ((with_reducible show wpAny _ _ (inplaceOp Operator.Add (Value.int _ _) (Value.int _ _)) _ _ _); (with_reducible refine' r_iadd_int ?h ?_); (case h => with_reducible assumption); intro _ _ _)
  | ((with_reducible show wpAny _ _ (inplaceOp Operator.Sub (Value.int _ _) (Value.int _ _)) _ _ _); (with_reducible refine' r_isub_int ?h ?_); (case h => with_reducible assumption); intro _ _ _)
  | ((with_reducible show wpAny _ _ (compareOp CmpOp.Lt (Value.int _ _) (Value.int _ _)) _ _ _); with_reducible refine P.lt_int ?_)
  | ((with_reducible show wpAny _ _ (compareOp CmpOp.Gt (Value.int _ _) (Value.int _ _)) _ _ _); with_reducible refine P.gt_int ?_)
  | ((with_reducible show wpAny _ _ (compareOp CmpOp.Eq (Value.int _ _) (Value.int _ _)) _ _ _); with_reducible refine P.eq_int ?_)
  | ((with_reducible show wpAny _ _ (compareOp CmpOp.NotEq (Value.int _ _) (Value.int _ _)) _ _ _); with_reducible refine P.ne_int ?_)
  | ((with_reducible show wpAny _ _ (compareOp CmpOp.Is _ Value.none) _ _ _); with_reducible refine is_none_gen ?_)
  | ((with_reducible show wpAny _ _ (compareOp CmpOp.Is (Value.bool _) (Value.bool _)) _ _ _); with_reducible refine is_bool ?_)
  | ((with_reducible show wpAny _ _ (compareOp CmpOp.IsNot (Value.bool _) (Value.bool _)) _ _ _); with_reducible refine isnot_bool ?_)
  | ((with_reducible show wpAny _ _ (compareOp CmpOp.NotIn (Value.str _ _) (Value.str _ _)) _ _ _); with_reducible refine P.notIn_str ?_)
  | ((with_reducible show wpAny _ _ (compareOp CmpOp.Eq (Value.str _ _) (Value.str _ _)) _ _ _); with_reducible refine PyProof.Rows.eq_str ?_)
  | ((with_reducible show wpAny _ _ (compareOp CmpOp.NotEq (Value.str _ _) (Value.str _ _)) _ _ _); with_reducible refine PyProof.Rows.ne_str ?_))

local macro_rules | `(tactic| walk_at "pm") => `(tactic| first | ((with_reducible show wpAny _ _ _ _ _ _); first | walk_at "pm eval" | walk_at "pm exec" | walk_at "pm op") | with_reducible refine if_t ?_ | with_reducible refine if_f ?_)
local macro_rules | `(tactic| walk_at "pms") => `(tactic| repeat (walk_at "pm"))

def bra (b : Bool) : Nat := if b then 40 else 41
def tailL : Nat → List Nat
  | 0 => []
  | 1 => []
  | 2 => [97]
  | 3 => [92, 41]
  | 4 => [34, 41, 34]
  | _ => [34, 40, 92, 34, 34]
def boxL (x : Int) : List Nat := bra (x.fmod 2 == 0) :: tailL ((x.fdiv 2).fmod 6).toNat

theorem fmod_cases2 (x : Int) : x.fmod 2 = 0 ∨ x.fmod 2 = 1 := by
  have h1 := Int.fmod_nonneg_of_pos x (b := 2) (by decide)
  have h2 := Int.fmod_lt_of_pos x (b := 2) (by decide)
  omega
theorem fmod_cases6 (x : Int) : x.fmod 6 = 0 ∨ x.fmod 6 = 1 ∨ x.fmod 6 = 2 ∨ x.fmod 6 = 3 ∨ x.fmod 6 = 4 ∨ x.fmod 6 = 5 := by
  have h1 := Int.fmod_nonneg_of_pos x (b := 6) (by decide)
  have h2 := Int.fmod_lt_of_pos x (b := 6) (by decide)
  omega

set_option maxHeartbeats 4000000 in
theorem box_ok {w : World} {A : Around} {E : Value → Shared → Prop} {s : Shared} {x : Int} {t : Tok} {Q : Value → Shared → Prop} (B : Base w s) (R : Room A 1)
    (g : ∀ y t' s', y.cps.toList = boxL x → Calm s s' → Q (.str y t') s') : wpAny (model Challenge.rw_pm0006_01.row.prog w) A (call (.ref 49) [.int x t]) Q E s := by
  refine enter (binds := [(Str.ofString "x", .int x t)]) B R rfl (by kernel_rfl) rfl (locs rfl) fun L s1 h => ?_
  walk_at "pms"
  have e2 := fmod_cases2 x
  have e6 := fmod_cases6 (x.fdiv 2)
  refine r_str_item (by assumption) (by rcases e2 with e | e <;> rw [e] <;> decide) (by rcases e2 with e | e <;> rw [e] <;> decide) (by rcases e2 with e | e <;> rw [e] <;> decide) ?_
  intro _ _ _
  have hi : (Txt.item (Str.ofString "()") (x.fmod 2)).cps.toList = [bra (x.fmod 2 == 0)] := by rcases e2 with e | e <;> rw [e] <;> decide
  have hl : (Txt.item (Str.ofString "()") (x.fmod 2)).length = 1 := by rcases e2 with e | e <;> rw [e] <;> decide
  generalize Txt.item (Str.ofString "()") (x.fmod 2) = y at hi hl ⊢
  walk_at "pms"
  rcases e6 with e6 | e6 | e6 | e6 | e6 | e6 <;>
    (rw [e6]; refine r_tuple_item (by assumption) (by walk_at "mem") (by assumption) (by decide) (by decide) (by rfl) (by rfl) ?_;
     refine r_add_str (by assumption) (by rw [hl]; decide) ?_; intro _ _ _;
     refine g _ _ _ ?_ (Loc.done (by assumption)); unfold boxL; rw [e6, Str.cps_append, Array.toList_append, hi]; rfl)

/-- what stands behind a loop's frame: the rest of the tree -/
def backK (env : Env) (K : Flow → Sem Fin) (H : Value → Sem Fin) (gd : Bool → Bool) (lv : List Value → List Value) : Result → Sem Fin := fun r =>
  ((match r with | .ok f => (.pure f : Sem Flow) | .error e => .raise e).onRaise fun (x : Value) => do
    if (← field x 1) == Value.none then unsupported "frame.own-activation:exception-without-traceback"
    setFlight x env.frame).wrap K H gd lv
theorem backK_ok {env : Env} {K : Flow → Sem Fin} {H : Value → Sem Fin} {gd : Bool → Bool} {lv : List Value → List Value} (f : Flow) : backK env K H gd lv (.ok f) = K f := rfl

section
variable {M : Model} {A : Around} {R : GenEnd} {Y : Protocol} {n : Nat} {s₀ : Shared} {c : Code} {fs : List Frame} {s : Shared} {env : Env}
  {K : Flow → Sem Fin} {H : Value → Sem Fin} {gd : Bool → Bool} {lv : List Value → List Value}

theorem seg_ff {α : Type} {m : Sem α} {K : α → Sem Fin} {H : Value → Sem Fin} {gd lv} (h : wpAny M (A.over c fs) m (fun a s' => Seg M A R Y n s₀ c (K a) fs s') FF s) : Seg M A R Y n s₀ c (m.wrap K H gd lv) fs s :=
  seg_wrap (wpAny_mono h (fun _ _ x => x) fun _ _ x => x.elim)
theorem seg_bind_ff {α β : Type} {m : Sem α} {K : α → Sem β} {K' : β → Sem Fin} {H' : Value → Sem Fin} {gd lv}
    (h : wpAny M (A.over c fs) m (fun a s' => Seg M A R Y n s₀ c ((K a).wrap K' H' gd lv) fs s') FF s) : Seg M A R Y n s₀ c ((m >>= K).wrap K' H' gd lv) fs s :=
  seg_bind_wrap (wpAny_mono h (fun _ _ x => x) fun _ _ x => x.elim)

/-- a statement that yields nothing, first in a row -/
theorem seg_stmt {st : Stmt} {rest : List Stmt} (h : wpAny M (A.over c fs) (exec st env) (fun f s' => match f with | .next => Seg M A R Y n s₀ c ((execs rest env).wrap K H gd lv) fs s' | f => Seg M A R Y n s₀ c (K f) fs s') FF s) :
    Seg M A R Y n s₀ c ((execs (st :: rest) env).wrap K H gd lv) fs s := by
  refine seg_execs_cons (seg_ff (wpAny_mono h (fun f s' h' => ?_) fun _ _ x => x))
  cases f <;> exact h'

theorem seg_If {test : Expr} {body orelse rest : List Stmt} {pos : Pos}
    (h : wpAny M (A.over c fs) (isTrue test env (eval test env)) (fun b s' => if b = true
      then Seg M A R Y n s₀ c ((execs body env).wrap (fun f => match f with | .next => (execs rest env).wrap K H gd lv | f => K f) H gd lv) fs s'
      else Seg M A R Y n s₀ c ((execs orelse env).wrap (fun f => match f with | .next => (execs rest env).wrap K H gd lv | f => K f) H gd lv) fs s') FF s) :
    Seg M A R Y n s₀ c ((execs (.If test body orelse pos :: rest) env).wrap K H gd lv) fs s := by
  refine seg_execs_cons ?_
  rw [exec_If]
  refine seg_bind_ff (wpAny_standAt (seg_bind_ff (wpAny_mono h (fun b s' h' => ?_) fun _ _ x => x)))
  cases b with
  | true => rw [if_pos rfl] at h'; exact h'
  | false => rw [if_neg Bool.false_ne_true] at h'; exact h'

theorem seg_For {target iter : Expr} {body orelse rest : List Stmt} {pos : Pos} (hs : ∀ x, foldedSetIterable iter env x = pure x)
    (h : wpAny M (A.over c fs) (eval iter env) (fun x s₁ => wpAny M (A.over c fs) (pyIter x) (fun it s₂ => ∀ p,
      Seg M A R Y n s₀ (.forLoop target it body orelse env) (M.den (.forLoop target it body orelse env))
        (.ret (backK env (fun f => match f with | .next => (execs rest env).wrap K H gd lv | f => K f) H gd lv) none (gd false) (lv []) c p [] :: fs) s₂) FF s₁) FF s) :
    Seg M A R Y n s₀ c ((execs (.For target iter body orelse pos :: rest) env).wrap K H gd lv) fs s := by
  refine seg_execs_cons ?_
  rw [exec_For]
  refine seg_bind_ff (wpAny_standAt (seg_bind_ff (wpAny_mono h (fun x s₁ h₁ => ?_) fun _ _ x => x)))
  refine seg_bind_ff (wpAny_of_eq (hs x) (seg_bind_ff (wpAny_standAt (seg_bind_ff (wpAny_holding (wpAny_mono h₁ (fun it s₂ h₂ => ?_) fun _ _ x => x))))))
  exact seg_call h₂
end

section
variable {prog : Program} {w : World} {A : Around} {R : GenEnd} {Y : Protocol} {n : Nat} {s₀ : Shared} {fs : List Frame} {s : Shared} {env : Env}

theorem seg_forLoop {target : Expr} {it : Value} {body orelse : List Stmt}
    (h : wpAny (model prog w) (A.over (.forLoop target it body orelse env) fs) (pyNext it) (fun r s₁ => match r with
      | none => Seg (model prog w) A R Y n s₀ (.block orelse env) ((model prog w).den (.block orelse env)) fs s₁
      | some v => wpAny (model prog w) (A.over (.forLoop target it body orelse env) fs) (letOwnedTupleGo target it v) (fun _ s₂ =>
          wpAny (model prog w) (A.over (.forLoop target it body orelse env) fs) (assign target env v) (fun _ s₃ =>
            Seg (model prog w) A R Y n s₀ (.forLoop target it body orelse env) ((execs body env).wrap (fun f => match f with
              | .next | .cont => .pure (.again (.forLoop target it body orelse env))
              | .brk => .pure (.done .next)
              | .ret v => .pure (.done (.ret v))) (fun e => (do noteFrame e env; theTreesLotGoes e : Sem Unit).wrap (fun _ => .raise e) .raise id id) id id) fs s₃) FF s₂) FF s₁) FF s) :
    Seg (model prog w) A R Y n s₀ (.forLoop target it body orelse env) ((model prog w).den (.forLoop target it body orelse env)) fs s := by
  show Seg _ A R Y n s₀ _ ((forTurn target it body orelse env).onRaise (fun x => do noteFrame x env; theTreesLotGoes x)) fs s
  unfold forTurn
  rw [Sem.onRaise_eq_wrap]
  refine seg_bind_ff (wpAny_standAt (seg_bind_ff (wpAny_onRaise (wpAny_mono h (fun r s₁ h₁ => ?_) fun _ _ x => x.elim))))
  cases r with
  | none => exact seg_again rfl h₁
  | some v =>
    refine seg_bind_ff (wpAny_mono h₁ (fun _ s₂ h₂ => ?_) fun _ _ x => x)
    refine seg_bind_ff (wpAny_mono h₂ (fun _ s₃ h₃ => ?_) fun _ _ x => x)
    rw [Sem.bind_eq_wrap', Sem.wrap_wrap]
    rw [Sem.wrap_congr (execs body env) _ _ (K' := fun f => match f with
            | .next | .cont => .pure (.again (.forLoop target it body orelse env))
            | .brk => .pure (.done .next)
            | .ret v => .pure (.done (.ret v))) (H' := (fun e => (do noteFrame e env; theTreesLotGoes e : Sem Unit).wrap (fun _ => .raise e) .raise id id))
        (fun f => by cases f <;> rfl)
        (fun e => by first | exact Sem.bind_eq_wrap _ _ | (show (do noteFrame e env; theTreesLotGoes e : Sem Unit).bind (fun _ => .raise e) = _; rw [Sem.bind_eq_wrap]))]
    exact h₃

theorem seg_block_nil {k h g l c₁ p₁ kp} (hk : Seg (model prog w) A R Y n s₀ c₁ (k (.ok .next)) fs s) :
    Seg (model prog w) A R Y n s₀ (.block [] env) ((model prog w).den (.block [] env)) (.ret k h g l c₁ p₁ kp :: fs) s := by
  show Seg _ A R Y n s₀ _ (leafOf (.ok .next)) _ s
  exact seg_leaf (.ok .next) hk
end

def pmBody (k : Nat) : List Stmt := match Challenge.pw_pm0006_01.main.body[k]? with
  | some (.FunctionDef _ _ b _ _ _ _ _ _ _) => b
  | _ => []
def pmScope (k : Nat) : Scope := match Challenge.pw_pm0006_01.main.body[k]? with
  | some (.FunctionDef _ _ _ _ _ _ sc _ _ _) => sc
  | _ => default
def forB : Stmt → List Stmt
  | .For _ _ b _ _ => b
  | _ => []
def forT : Stmt → Expr
  | .For t _ _ _ _ => t
  | _ => default
def stAt (l : List Stmt) (k : Nat) : Stmt := l.getD k default

/-- what _iter_escaped_chars gives: places and signs -/
def itemsF : List Nat → Nat → Bool → List (Nat × List Nat)
  | [], i, esc => if esc then [(i - 1, [92])] else []
  | c :: cs, i, true => (i, [92, c]) :: itemsF cs (i + 1) false
  | c :: cs, i, false => if c = 92 then itemsF cs (i + 1) true else (i, [c]) :: itemsF cs (i + 1) false

def isIt (o : Obj) : Prop := (o.cls = .type "enumerate" ∨ o.cls = .type "str_ascii_iterator" ∨ o.cls = .type "str_iterator") ∧ ∃ vs, o.data = .fields vs
structure GGo (sb : Heap) (C : Addr) (s₀ s : Shared) : Prop where
  heap : ∀ b o, s₀.heap.get? b = some o → ((b ≠ C ∧ ¬ isIt o) ∨ sb.get? b = some o) → s.heap.get? b = some o
  os : s.os = s₀.os
  gens : ∀ (i : Nat) (x : GenState), s₀.gens[i]? = some x → s.gens[i]? = some x
  bare : AllBare s₀.gens → AllBare s.gens
  ns : (∃ m, s₀.heap.Ns C m) → ∃ m, s.heap.Ns C m
theorem GGo.refl (sb : Heap) (C : Addr) (s : Shared) : GGo sb C s s := ⟨fun _ _ h _ => h, rfl, fun _ _ h => h, id, id⟩
structure Live (sb : Heap) (C : Addr) (s s'' : Shared) : Prop where
  old : ∀ b o, sb.get? b = some o → s''.heap.get? b = some o
  own : ∀ b o, s.heap.get? b = some o → (b = C ∨ isIt o) → s''.heap.get? b = some o
def ItemV (s : Shared) (v : Value) (p : Nat) (c : List Nat) : Prop := ∃ T o t u y, v = .ref T ∧ s.heap.get? T = some o ∧ TupO o [.int (p : Int) t, .str y u] ∧ y.cps.toList = c
def gY (sb : Heap) (C : Addr) (items : List (Nat × List Nat)) : Protocol := fun m s₀ v s kap =>
  (∃ p c, items[items.length - 1 - m]? = some (p, c) ∧ ItemV s v p c) ∧ GGo sb C s₀ s ∧ ∀ s'', Live sb C s s'' → kap (.send .none) s''
def gR (sb : Heap) (C : Addr) : GenEnd := fun n s₀ r s₁ => r = .ok (.ret .none) ∧ n = 0 ∧ GGo sb C s₀ s₁

theorem here_of {α : Type} {items pre rest : List α} {x : α} {m : Nat} (h : items = pre ++ x :: rest) (hm : rest.length = m) : items[items.length - 1 - m]? = some x := by
  subst h
  have : (pre ++ x :: rest).length - 1 - m = pre.length := by simp only [List.length_append, List.length_cons]; omega
  rw [this, List.getElem?_append_right (Nat.le_refl _), Nat.sub_self]
  rfl

abbrev iterEnv (C : Addr) : Env := envOf (Str.ofString "_iter_escaped_chars") (pmScope 3) C 28 (.ref 27)

def retK : Flow → Sem Fin := fun f => .pure (.done (.ret (match f with | .ret v => v | _ => .none)))
def leavH (env : Env) : Value → Sem Fin := fun e => (leaving env e).wrap (fun _ => .raise e) .raise id id
def thenK (rest : List Stmt) (env : Env) (f : Flow) : Sem Fin := match f with
  | .next => (execs rest env).wrap retK (leavH env) id id
  | f => retK f
/-- the iterator that the generator's loop draws from -/
structure EnumStr (prog : Program) (w : World) (e it : Addr) (x : Str) (St : Nat → Heap → Prop) (Mid : Nat → Addr → Heap → Prop) : Prop where
  walk : ∀ A' : Around, A'.handled = none → WalksT prog w A' e [e, it] [e, it] x.cps.size (fun i vals => ∃ t y, SignAt x i y ∧ vals = #[.int i t, y]) St Mid
  kind : ∀ i h, St i h → (∃ o, h.get? e = some o ∧ isIt o) ∧ ∃ o, h.get? it = some o ∧ isIt o

section
variable {prog : Program} {w : World} {A : Around} {b₀ : Shared} {C e it : Addr} {x : Str} {St : Nat → Heap → Prop} {Mid : Nat → Addr → Heap → Prop} {items : List (Nat × List Nat)}

abbrev vb (b₀ s : Shared) : Shared := { s with heap := b₀.heap }

theorem ggo_of {m : Str → Option Value} {D : List (Addr × Obj)} {s₀ s : Shared} (h : Loc w (vb b₀ s₀) C m D [e, it] s₀ s) (he : b₀.heap.get? e = none) (hi : b₀.heap.get? it = none)
    (hk : ∀ b ∈ [e, it], ∀ o, s₀.heap.get? b = some o → isIt o) : GGo b₀.heap C s₀ s where
  heap := fun b o hb hc => by
    refine h.chg b o ?_ ?_ hb
    · rintro rfl
      rcases hc with ⟨q, _⟩ | q
      · exact q rfl
      · exact absurd (Nat.lt_of_lt_of_le (Heap.lt_size q) h.fr.above) (Nat.lt_irrefl _)
    · intro hm
      rcases hc with ⟨_, q⟩ | q
      · exact q (hk b hm o hb)
      · rcases List.mem_cons.mp hm with rfl | hm
        · rw [he] at q; cases q
        · rw [List.mem_singleton.mp hm, hi] at q; cases q
  os := h.sos
  gens := h.sgens
  bare := h.sbare
  ns := fun _ => ⟨_, h.fr.ns⟩

/-- behind the loop: the last sign, if it was a lone mark -/
theorem seg_tail (hh : A.handled = none) (he : b₀.heap.get? e = none) (hi : b₀.heap.get? it = none) {body : List Stmt} {s₀ s : Shared} {m : Str → Option Value} {esc : Bool} {i : Nat} {pre : List (Nat × List Nat)}
    (hp : items = pre ++ itemsF [] i esc) (h : Loc w (vb b₀ s₀) C m [] [e, it] s₀ s) (hm : m (Str.ofString "escape") = some (.bool esc)) (hpos : esc = true → ∃ t, m (Str.ofString "pos") = some (.int ((i - 1 : Nat) : Int) t))
    (hk : ∀ b ∈ [e, it], ∀ o, s₀.heap.get? b = some o → isIt o) :
    Seg (model prog w) A (gR b₀.heap C) (gY b₀.heap C items) (itemsF [] i esc).length s₀ (.func body (iterEnv C))
      ((execs [stAt (pmBody 3) 3] (iterEnv C)).wrap retK (leavH (iterEnv C)) id id) [] s := by
  show Seg _ _ _ _ _ _ _ ((execs (.If _ _ _ _ :: _) _).wrap _ _ _ _) _ _
  refine seg_If ?_
  walk_at "pms"
  cases esc with
  | false =>
    rw [if_neg Bool.false_ne_true]
    exact seg_end (.ok (.ret .none)) ⟨rfl, rfl, ggo_of (by assumption) he hi hk⟩
  | true =>
    rw [if_pos rfl]
    obtain ⟨tp, hpos⟩ := hpos rfl
    refine seg_execs_cons (seg_Expr_Yield rfl rfl rfl ?_ rfl rfl)
    walk_at "pms"
    intro kap hkap
    refine ⟨⟨i - 1, [92], here_of hp rfl, _, _, _, _, _, rfl, Loc.get (by assumption) (.head _), by assumption, rfl⟩, ggo_of (by assumption) he hi hk, fun s'' lv => hkap .none s'' ?_⟩
    exact seg_end (.ok (.ret .none)) ⟨rfl, rfl, GGo.refl _ _ _⟩

/-- a sleeping generator's frame, woken in another state -/
theorem rewake {m : Str → Option Value} {D : List (Addr × Obj)} {s₀ s s'' : Shared} (h : Loc w (vb b₀ s₀) C m D [e, it] s₀ s) (lv : Live b₀.heap C s s'') : Loc w (vb b₀ s'') C m [] [e, it] s'' s'' :=
  ⟨⟨h.base.k, h.base.t⟩, ⟨h.fr.ns.at' fun o q => lv.own _ _ q (.inl rfl), lv.old, h.fr.above⟩, fun p hp => (nomatch hp), rfl, fun _ _ q => q, id, fun _ _ _ _ q => q, fun _ _ q => q, rfl, id⟩

theorem seg_loop (hh : A.handled = none) (X : EnumStr prog w e it x St Mid) (he : b₀.heap.get? e = none) (hi : b₀.heap.get? it = none) (hCe : C ≠ e) (hCi : C ≠ it) {body : List Stmt} {p : Pos}
    (hw : e ∈ [e, it] := by simp) : ∀ (k i : Nat) (s₀ s : Shared) (m : Str → Option Value) (esc : Bool) (pre : List (Nat × List Nat)), x.cps.size - i = k → i ≤ x.cps.size → St i s.heap →
      items = pre ++ itemsF (x.cps.toList.drop i) i esc → Loc w (vb b₀ s₀) C m [] [e, it] s₀ s → m (Str.ofString "escape") = some (.bool esc) → (esc = true → ∃ t, m (Str.ofString "pos") = some (.int ((i - 1 : Nat) : Int) t)) →
      (∀ b ∈ [e, it], ∀ o, s₀.heap.get? b = some o → isIt o) →
      Seg (model prog w) A (gR b₀.heap C) (gY b₀.heap C items) (itemsF (x.cps.toList.drop i) i esc).length s₀ (.forLoop (forT (stAt (pmBody 3) 2)) (.ref e) (forB (stAt (pmBody 3) 2)) [] (iterEnv C))
        ((model prog w).den (.forLoop (forT (stAt (pmBody 3) 2)) (.ref e) (forB (stAt (pmBody 3) 2)) [] (iterEnv C)))
        [.ret (backK (iterEnv C) (thenK [stAt (pmBody 3) 3] (iterEnv C)) (leavH (iterEnv C)) id id) none false [] (.func body (iterEnv C)) p []] s := by
  have hC : C ∉ [e, it] := by simp [hCe, hCi]
  have hf : ∀ (s₀ : Shared), ∀ b ∈ [e, it], (vb b₀ s₀).heap.get? b = none := fun _ b hb => by
    rcases List.mem_cons.mp hb with rfl | hb
    · exact he
    · rw [List.mem_singleton.mp hb]; exact hi
  have hh' : ∀ cd kk, (A.over cd [.ret kk none false [] (.func body (iterEnv C)) p []]).handled = none := fun _ _ => hh
  intro k
  induction k with
  | zero =>
    intro i s₀ s m esc pre hk hle hst hp h hm hpos ho
    have hin : i = x.cps.size := by omega
    have hd : x.cps.toList.drop i = [] := by rw [hin]; exact List.drop_of_length_le (by simp)
    rw [hd] at hp ⊢
    refine seg_forLoop ((X.walk _ (hh' _ _)).done s _ _ (hin ▸ hst) fun h' tk hkp => ?_)
    refine seg_block_nil ?_
    exact seg_tail hh he hi hp ((h.iterW (s' := { s with heap := h', toks := tk }) hkp hC (fun _ q => q) (hf s₀) (fun p hp => (nomatch hp)) rfl rfl)) hm hpos ho
  | succ k ih =>
    intro i s₀ s m esc pre hk hle hst hp h hm hpos ho
    have hlt : i < x.cps.size := by omega
    have hd : x.cps.toList.drop i = x.cps[i] :: x.cps.toList.drop (i + 1) := by
      rw [List.drop_eq_getElem_cons (by simpa using hlt)]; simp
    refine seg_forLoop ((X.walk _ (hh' _ _)).item i s _ _ hlt hst fun T vals h' tk hP hsz hT hM hkp => ?_)
    obtain ⟨tp, y, ⟨c, u, hc, rfl⟩, rfl⟩ := hP
    have hce : c = x.cps[i] := by
      rw [Array.getElem?_eq_getElem hlt] at hc
      exact (Option.some.inj hc).symm
    subst hce
    have h1 := h.iterW (s' := { s with heap := h', toks := tk }) hkp hC (fun _ q => q) (hf s₀) (fun p hp => (nomatch hp)) rfl rfl
    obtain ⟨oT, hoT, hcT, nT, hdT⟩ := hT
    show wpAny _ _ (letOwnedTupleGo (.Tuple _ _ _) _ _) _ _ _
    refine (X.walk _ (hh' _ _)).go _ _ _ i T _ _ _ hM fun h2 hst2 hkp2 => ?_
    have hTw : T ∉ [e, it] := (X.walk A hh).apart _ _ _ hM
    have h2' := h1.iterW (s' := { s with heap := h2, toks := tk }) hkp2 hC (fun _ q => q) (hf s₀) (fun p hp => (nomatch hp)) rfl rfl
    obtain ⟨⟨oe, hoe, ie⟩, oi, hoi, ii⟩ := X.kind _ _ hst2
    have hD : ∀ {m' : Str → Option Value} {D : List (Addr × Obj)} {sr s' : Shared}, Loc w (vb b₀ s₀) C m' D [e, it] sr s' → (e, oe) ∈ D → (it, oi) ∈ D → St (i + 1) s'.heap := fun h' q1 q2 =>
      (X.walk A hh).frame _ _ _ hst2 fun b hb o q => by
        rcases List.mem_cons.mp hb with rfl | hb
        · have q : h2.get? b = some o := q
          rw [hoe] at q; cases q; exact h'.get q1
        · rw [List.mem_singleton.mp hb] at q ⊢
          have q : h2.get? it = some o := q
          rw [hoi] at q; cases q; exact h'.get q2
    have wake : ∀ {s' s'' : Shared}, St (i + 1) s'.heap → Live b₀.heap C s' s'' → St (i + 1) s''.heap ∧ ∀ b ∈ [e, it], ∀ o, s''.heap.get? b = some o → isIt o := fun {s' s''} hs lv => by
      obtain ⟨⟨xe, hxe, ke⟩, xi, hxi, ki⟩ := X.kind _ _ hs
      have he' := lv.own _ _ hxe (.inr ke)
      have hi' := lv.own _ _ hxi (.inr ki)
      refine ⟨(X.walk A hh).frame _ _ _ hs fun b hb o q => lv.own b o q (.inr ?_), fun b hb o q => ?_⟩
      · rcases List.mem_cons.mp hb with rfl | hb
        · rw [hxe] at q; cases q; exact ke
        · rw [List.mem_singleton.mp hb, hxi] at q; cases q; exact ki
      · rcases List.mem_cons.mp hb with rfl | hb
        · rw [he'] at q; cases q; exact ke
        · rw [List.mem_singleton.mp hb, hi'] at q; cases q; exact ki
    have h3 := ((h2'.add hoi (Ne.symm hCi)).add hoe (Ne.symm hCe)).add (hkp2 _ _ hTw hoT) (seq_ne h2'.fr.ns (hkp2 _ _ hTw hoT) hdT)
    refine r_unpack2 h3 (hh' _ _) (.head _) ⟨hcT, nT, by simpa using hdT⟩ fun s4 h4 => ?_
    have e1 : itemsF (x.cps.toList.drop i) i esc = itemsF (x.cps[i] :: x.cps.toList.drop (i + 1)) i esc := by rw [hd]
    rw [e1] at hp ⊢
    have hm4 : (upd (upd m (Str.ofString "pos") (.int i tp)) (Str.ofString "ch") (.str ⟨#[x.cps[i]]⟩ u)) (Str.ofString "escape") = some (.bool esc) := by
      refine (upd_ne (by decide)).trans ((upd_ne (by decide)).trans hm)
    generalize x.cps[i] = ch at *
    show Seg _ _ _ _ _ _ _ ((execs (.If _ _ _ _ :: _) _).wrap _ _ _ _) _ _
    refine seg_If ?_
    walk_at "pms"
    cases esc with
    | true =>
      rw [if_pos rfl]
      refine seg_execs_cons (seg_Expr_Yield rfl rfl rfl ?_ rfl rfl)
      walk_at "pms"
      refine r_add_str (by assumption) (by show 1 + 1 ≤ sizeLine; decide) ?_
      intro _ _ _
      walk_at "pms"
      intro kap hkap
      rename Loc _ _ _ _ _ _ _ _ => h5
      refine ⟨⟨i, [92, ch], here_of hp rfl, _, _, _, _, _, rfl, Loc.get h5 (.head _), by assumption, ?_⟩, ggo_of h5 he hi ho, fun s'' lv => hkap .none s'' ?_⟩
      · rw [Str.cps_append, Array.toList_append, show (Str.ofString "\\").cps.toList = [92] by decide]; rfl
      · obtain ⟨hs6, ho6⟩ := wake (hD h5 (by walk_at "mem") (by walk_at "mem")) lv
        obtain ⟨⟨xe, hxe, _⟩, xi, hxi, _⟩ := X.kind _ _ hs6
        have h6 := ((rewake h5 lv).add hxi (Ne.symm hCi)).add hxe (Ne.symm hCe)
        show Seg _ _ _ _ _ _ _ ((execs (.Assign _ _ _ :: _) _).wrap _ _ _ _) _ _
        refine seg_stmt ?_
        walk_at "pms"
        rename Loc _ _ _ _ _ _ _ _ => h7
        exact seg_again rfl (ih (i + 1) s'' _ _ false (pre ++ [(i, [92, ch])]) (by omega) hlt ((X.walk A hh).frame _ _ _ hs6 fun b hb o q => by
          rcases List.mem_cons.mp hb with rfl | hb
          · rw [hxe] at q; cases q; exact h7.get (by walk_at "mem")
          · rw [List.mem_singleton.mp hb] at q ⊢
            rw [hxi] at q; cases q; exact h7.get (by walk_at "mem")) (by rw [hp]; simp [itemsF]) (h7.sub fun p hp => (nomatch hp)) (upd_same _ _ _) (fun q => nomatch q) ho6)
    | false =>
      rw [if_neg Bool.false_ne_true]
      show Seg _ _ _ _ _ _ _ ((execs (.If _ _ _ _ :: _) _).wrap _ _ _ _) _ _
      refine seg_If ?_
      walk_at "pms"
      by_cases hc92 : ch = 92
      · subst hc92
        rw [if_pos (by decide)]
        show Seg _ _ _ _ _ _ _ ((execs (.Assign _ _ _ :: _) _).wrap _ _ _ _) _ _
        refine seg_stmt ?_
        walk_at "pms"
        rename Loc _ _ _ _ _ _ _ _ => h7
        exact seg_again rfl (ih (i + 1) s₀ _ _ true pre (by omega) hlt (hD h7 (by walk_at "mem") (by walk_at "mem")) hp (h7.sub fun p hp => (nomatch hp)) (upd_same _ _ _) (fun _ => ⟨_, by walk_at "lk"⟩) ho)
      · have hb : ((⟨#[ch]⟩ : Str) == Str.ofString "\\") = false := by
          rw [show Str.ofString "\\" = ⟨#[92]⟩ by decide, beq_eq_false_iff_ne]
          intro q
          injection q with q
          exact hc92 (by simpa using q)
        rw [hb, if_neg Bool.false_ne_true]
        have e2 : itemsF (ch :: x.cps.toList.drop (i + 1)) i false = (i, [ch]) :: itemsF (x.cps.toList.drop (i + 1)) (i + 1) false := if_neg hc92
        rw [e2] at hp ⊢
        refine seg_execs_cons (seg_Expr_Yield rfl rfl rfl ?_ rfl rfl)
        walk_at "pms"
        intro kap hkap
        rename Loc _ _ _ _ _ _ _ _ => h5
        refine ⟨⟨i, [ch], here_of hp rfl, _, _, _, _, _, rfl, Loc.get h5 (.head _), by assumption, rfl⟩, ggo_of h5 he hi ho, fun s'' lv => hkap .none s'' ?_⟩
        obtain ⟨hs6, ho6⟩ := wake (hD h5 (by walk_at "mem") (by walk_at "mem")) lv
        have h6 := rewake h5 lv
        exact seg_again rfl (ih (i + 1) s'' _ _ false (pre ++ [(i, [ch])]) (by omega) hlt hs6 (by rw [hp]; simp) h6 hm4 (fun q => nomatch q) ho6)
end

theorem Loc.weakW {w : World} {s₀ sr s : Shared} {L : Addr} {m : Str → Option Value} {D : List (Addr × Obj)} {W : List Addr} (h : Loc w s₀ L m D W sr s) {W' : List Addr} (hw : ∀ b ∈ W, b ∈ W') : Loc w s₀ L m D W' sr s :=
  ⟨h.base, h.fr, h.led, h.os, h.gens, h.bare, fun b o h1 h2 e => h.chg b o h1 (fun q => h2 (hw b q)) e, h.sgens, h.sos, h.sbare⟩

theorem enumStr_ascii {prog : Program} {w : World} {e it : Addr} {x : Str} {t : Tok} (hei : e ≠ it) :
    EnumStr prog w e it x (fun i h => (∃ old, IsEnum h e it i old) ∧ h.IsStrIter it "str_ascii_iterator" x t i) (fun i T h => (∃ x', IsEnumOut h e it ((i : Int) + 1) x' T) ∧ h.IsStrIter it "str_ascii_iterator" x t (i + 1) ∧ T ≠ e ∧ T ≠ it) where
  walk := fun A' hA => by
    have W := WalksT.enumerateD (prog := prog) (w := w) (A := A') (Draws.strAscii (A := A'.in1) hA it x t) e hei (by simpa using hei) (by simp)
    refine ⟨fun b hb => hb, W.frame, fun i s Q E hi hst hQ => W.item i s Q E hi hst fun T vals h' tk ⟨t', x', hP, hv⟩ => hQ T vals h' tk ⟨t', x', hP, hv⟩, W.go, W.apart, W.done, W.self⟩
  kind := fun i h hst => by
    obtain ⟨⟨old, he⟩, o, ho, hc, hd⟩ := hst
    exact ⟨⟨_, he, .inl rfl, _, rfl⟩, o, ho, .inr (.inl hc), _, hd⟩
theorem enumStr_wide {prog : Program} {w : World} {e it : Addr} {x : Str} {t : Tok} (hei : e ≠ it) :
    EnumStr prog w e it x (fun i h => (∃ old, IsEnum h e it i old) ∧ h.IsStrIter it "str_iterator" x t i) (fun i T h => (∃ x', IsEnumOut h e it ((i : Int) + 1) x' T) ∧ h.IsStrIter it "str_iterator" x t (i + 1) ∧ T ≠ e ∧ T ≠ it) where
  walk := fun A' hA => by
    have W := WalksT.enumerateD (prog := prog) (w := w) (A := A') (Draws.strWide (A := A'.in1) hA it x t) e hei (by simpa using hei) (by simp)
    refine ⟨fun b hb => hb, W.frame, fun i s Q E hi hst hQ => W.item i s Q E hi hst fun T vals h' tk ⟨t', x', hP, hv⟩ => hQ T vals h' tk ⟨t', x', hP, hv⟩, W.go, W.apart, W.done, W.self⟩
  kind := fun i h hst => by
    obtain ⟨⟨old, he⟩, o, ho, hc, hd⟩ := hst
    exact ⟨⟨_, he, .inl rfl, _, rfl⟩, o, ho, .inr (.inr hc), _, hd⟩
theorem enumStr_of {prog : Program} {w : World} {e it : Addr} {x : Str} {t : Tok} {h : Heap} (hei : e ≠ it) (he : IsEnum h e it 0 .none) (hi : h.IsStrIter it (strIterType x) x t 0) :
    ∃ St Mid, EnumStr prog w e it x St Mid ∧ St 0 h := by
  unfold strIterType at hi
  split at hi
  · exact ⟨_, _, enumStr_ascii hei, ⟨_, he⟩, hi⟩
  · exact ⟨_, _, enumStr_wide hei, ⟨_, he⟩, hi⟩

section
variable {prog : Program} {w : World} {A : Around} {b₀ : Shared} {C : Addr} {x : Str} {t : Tok}

/-- a generator that has not begun, woken -/
theorem seg_start (hh : A.handled = none) {s : Shared} {m : Str → Option Value} (h : Loc w (vb b₀ s) C m [] [] s s) (hm : m (Str.ofString "addr") = some (.str x t)) :
    Seg (model prog w) A (gR b₀.heap C) (gY b₀.heap C (itemsF x.cps.toList 0 false)) (itemsF x.cps.toList 0 false).length s (.func (pmBody 3) (iterEnv C)) ((model prog w).den (.func (pmBody 3) (iterEnv C))) [] s := by
  refine seg_func ?_
  show Seg _ _ _ _ _ _ _ ((execs (.Assign _ _ _ :: .Assign _ _ _ :: .For _ _ _ _ _ :: _) _).wrap retK (leavH (iterEnv C)) id id) [] s
  refine seg_stmt ?_
  walk_at "pms"
  refine seg_stmt ?_
  walk_at "pms"
  refine seg_For (by intro _; rfl) ?_
  walk_at "pms"
  rename Loc _ _ _ _ _ _ _ _ => h1
  rename Shared => s1
  refine call_enumerate_str fun h' he hi hz hk => ?_
  have hC : Calm s1 { s1 with heap := h' } := calm_heap (k := s1.toks) hk
  have h2 := h1.calm hC
  refine wpAny_pyIter_enum he ?_
  intro p
  obtain ⟨St, Mid, X, hst⟩ := enumStr_of (prog := prog) (w := w) (Nat.succ_ne_self _) he hi
  have new : ∀ b : Addr, s1.heap.objs.size ≤ b → b₀.heap.get? b = none ∧ s.heap.get? b = none ∧ C ≠ b := fun b hb => by
    have hno : ∀ o, s1.heap.get? b ≠ some o := fun o q => absurd (Heap.lt_size q) (Nat.not_lt_of_le hb)
    have hne : C ≠ b := Nat.ne_of_lt (Nat.lt_of_lt_of_le h1.ltL hb)
    refine ⟨?_, ?_, hne⟩
    · cases q : b₀.heap.get? b with
      | none => rfl
      | some o => exact absurd (h1.fr.keep b o q) (hno o)
    · cases q : s.heap.get? b with
      | none => rfl
      | some o => exact absurd (h1.chg b o (Ne.symm hne) (by simp) q) (hno o)
  have n1 := new (s1.heap.objs.size + 1) (Nat.le_succ _)
  have n0 := new s1.heap.objs.size (Nat.le_refl _)
  exact seg_loop (items := itemsF x.cps.toList 0 false) (body := pmBody 3) (p := p) hh X n1.1 n0.1 n1.2.2 n0.2.2 (by simp) x.cps.size 0 s _ _ false [] (Nat.sub_zero _) (Nat.zero_le _) hst (by simp) (h2.weakW (by simp)) (by walk_at "lk") (fun q => nomatch q)
    (fun b hb o q => by
      rcases List.mem_cons.mp hb with rfl | hb
      · rw [n1.2.1] at q; cases q
      · rw [List.mem_singleton.mp hb, n0.2.1] at q; cases q)

/-- a generator of these items, asleep or not begun -/
def GenIs (prog : Program) (w : World) (A : Around) (b₀ : Shared) (a : Addr) (g : Nat) (C : Addr) (items : List (Nat × List Nat)) (n : Nat) (s : Shared) : Prop :=
  s.heap.IsGen a g ∧ (∃ mC, s.heap.Ns C mC) ∧ ∃ gs, s.gens[g]? = some gs ∧ ∀ s'', Live b₀.heap C s s'' → gs.Goes (model prog w) A (gR b₀.heap C) (gY b₀.heap C items) n (.send .none) s''

theorem next_gen {a : Addr} {g n : Nat} {gs : GenState} {P : Nat → Shared → Shared → Prop} {Y : Protocol} {Q : Option Value → Shared → Prop} {E : Value → Shared → Prop} {s : Shared} (hh : A.handled = none) (hl : s.heap.NoLimit) (hroom : A.depth < recursionLimit)
    (hg : s.heap.IsGen a g) (hgs : s.gens[g]? = some gs) (hgo : gs.Goes (model prog w) A.in1 (fun n s₀ r s₁ => r = .ok (.ret .none) ∧ P n s₀ s₁) Y n (.send .none) (s.setGen g .running))
    (hY : ∀ v s₁ gs', gs'.bare = true → Y (n - 1) (s.setGen g .running) v s₁ (fun r' s'' => match n with
        | 0 => False
        | m + 1 => gs'.Goes (model prog w) A.in1 (fun n s₀ r s₁ => r = .ok (.ret .none) ∧ P n s₀ s₁) Y m r' s'') → Q (some v) (s₁.setGen g gs'))
    (hP : ∀ s₁, P n (s.setGen g .running) s₁ → ∀ h', (∀ b o, s₁.heap.get? b = some o → h'.get? b = some o) → Q none { s₁.setGen g .finished with heap := h' }) :
    wpAny (model prog w) A (pyNext (.ref a)) Q E s := by
  unfold pyNext
  refine wpAny_bind (wpAny_attempt (wpAny_callSpecial?_slot (name := Str.ofString "__next__") hg.typeIs slot_gen_next (wpAny_call_entry slot_gen_next hg.typeIs entry_gen_next ?_ (args_gen_next _))))
  show wpAny _ A.in1 (Builtin.Generator.genWake (.ref a) (.send .none)) _ _ s
  unfold Builtin.Generator.genWake
  refine wpAny_bind (wpAny_holding (wpAny_genNumber hg (wpAny_bind (wpAny_genState hgs ?_))))
  cases gs with
  | running => exact hgo.elim
  | finished => exact hgo.elim
  | _ =>
    refine wpAny_bind (wpAny_roomToWake hl hroom ?_)
    show wpAny _ A.in1 (.resume g (.send .none) [] _) _ _ s
    refine wpAny_resumeQ hgs hgo (fun x s₁ hx => ?_) (fun v s₁ gs' hb hv => wpAny_pure ⟨v, rfl, wpAny_pure (hY v s₁ gs' hb hv)⟩)
    obtain ⟨rfl, hp⟩ := hx
    show wpAny _ A.in1 (newExc (.type "StopIteration") [] >>= _) _ _ _
    refine wpAny_bind ?_
    simp only [newExc, newTuple]
    refine wpAny_bind (wpAny_newObj_type ?_ (by size_fits))
    refine wpAny_bind (m := firstArgMember _ _) (wpAny_of_eq (a := Value.none) (by first | rfl | (simp only [firstArgMember]; rfl)) ?_)
    refine wpAny_newObj_type ?_ (by size_fits)
    simp only [raiseNew]
    refine wpAny_bind (wpAny_bind (wpAny_handled ?_))
    first | rw [show A.in1.handled = none from hh] | rw [hh]
    refine wpAny_throw ?_
    refine wpAny_bind (wpAny_isInstance (T := "StopIteration") (b := true) ⟨_, Heap.get?_push_size _ rfl, rfl⟩ isSubtype_stop ?_)
    exact wpAny_pure (hP s₁ hp _ fun b o hb => Heap.get?_push_of_some _ (Heap.get?_push_of_some _ hb))
end

theorem ns_ne {h : Heap} {C a : Addr} {o : Obj} (hC : ∃ m, h.Ns C m) (ha : h.get? a = some o) (hd : ∀ es ep, o.data ≠ .dict es ep) : a ≠ C := by
  rintro rfl
  obtain ⟨_, o', es, ep, ho, hd', _⟩ := hC
  rw [ha] at ho
  cases ho
  exact hd _ _ hd'
theorem isIt_seq {o : Obj} {vs : Array Value} {n : Nat} (hd : o.data = .seq vs n) : ¬ isIt o := by
  rintro ⟨_, vs', h⟩
  rw [hd] at h
  cases h
theorem setGen_old {s : Shared} {g i : Nat} {x y : GenState} (hg : i ≠ g) (h : s.gens[i]? = some y) : (s.setGen g x).gens[i]? = some y := by
  show (s.gens.setIfInBounds g x)[i]? = _
  rw [Array.getElem?_setIfInBounds_ne (Ne.symm hg)]
  exact h
theorem setGen_at {s : Shared} {g : Nat} {x y : GenState} (h : s.gens[g]? = some y) : (s.setGen g x).gens[g]? = some x := by
  show (s.gens.setIfInBounds g x)[g]? = _
  rw [Array.getElem?_setIfInBounds_self]
  have : g < s.gens.size := by
    rcases Nat.lt_or_ge g s.gens.size with q | q
    · exact q
    · rw [Array.getElem?_eq_none q] at h; cases h
  simp [this]
theorem setGen_bare {s : Shared} {g : Nat} {x : GenState} (hx : x.bare = true) (h : AllBare s.gens) : AllBare (s.setGen g x).gens := by
  intro y hy
  rcases Array.mem_or_eq_of_mem_setIfInBounds hy with q | q
  · exact h y q
  · exact q ▸ hx

section
variable {w : World} {s₀ sr s s' : Shared} {L C : Addr} {m : Str → Option Value} {D : List (Addr × Obj)} {W : List Addr}

theorem Loc.ggo (h : Loc w s₀ L m D W sr s) (gg : GGo s₀.heap C s s') (hCL : C ≠ L) (hC : ∃ mC, s.heap.Ns C mC) (hD : ∀ p ∈ D, ∃ vs n, p.2.data = .seq vs n) (W' : List Addr) : Loc w s₀ L m D W' s' s' where
  base := h.base
  fr := ⟨(by
    obtain ⟨o, es, ep, ho, hd, r⟩ := h.fr.ns
    refine ⟨o, es, ep, gg.heap _ _ ho (.inl ⟨Ne.symm hCL, ?_⟩), hd, r⟩
    rintro ⟨_, vs, q⟩
    rw [hd] at q; cases q), fun b o e => gg.heap b o (h.fr.keep b o e) (.inr e), h.fr.above⟩
  led := fun p hp => ⟨gg.heap _ _ (h.led p hp).1 (.inl (by
    obtain ⟨vs, n, hd⟩ := hD p hp
    exact ⟨ns_ne hC (h.led p hp).1 (by rw [hd]; intro _ _ q; cases q), isIt_seq hd⟩)), (h.led p hp).2⟩
  os := gg.os.trans h.os
  gens := fun i x e => gg.gens i x (h.gens i x e)
  bare := fun b => gg.bare (h.bare b)
  chg := fun _ _ _ _ e => e
  sgens := fun _ _ e => e
  sos := rfl
  sbare := id
theorem Loc.setGen (h : Loc w s₀ L m D W sr s) {g : Nat} {x : GenState} (hg : s₀.gens[g]? = none) (hx : x.bare = true) (W' : List Addr) : Loc w s₀ L m D W' (s.setGen g x) (s.setGen g x) where
  base := h.base
  fr := h.fr
  led := h.led
  os := h.os
  gens := fun i y e => setGen_old (fun q => by rw [q, hg] at e; cases e) (h.gens i y e)
  bare := fun b => setGen_bare hx (h.bare b)
  chg := fun _ _ _ _ e => e
  sgens := fun _ _ e => e
  sos := rfl
  sbare := id
end

section
variable {w : World} {A : Around} {s₀ sr s : Shared} {L C : Addr} {m : Str → Option Value} {D : List (Addr × Obj)} {W : List Addr} {name : Str} {scope : Scope} {f : Addr} {cd : Value} {prog : Program} {x : Str} {t : Tok}

theorem r_mkgen {E : Value → Shared → Prop} {Q : Value → Shared → Prop} (h : Loc w s₀ L m D W sr s) (hh : A.handled = none) (hroom : A.depth < recursionLimit)
    (k : ∀ a g C s', Loc w s₀ L m D W sr s' → GenIs prog w A.in1 s₀ a g C (itemsF x.cps.toList 0 false) (itemsF x.cps.toList 0 false).length s' → C ≠ L → s₀.gens[g]? = none → Q (.ref a) s') :
    wpAny (model prog w) A (call (.ref 28) [.str x t]) Q E s := by
  have hlk : ∃ oc od osl pm doc prm, (KK w).lookup 28 = some ⟨oc, od, .func (docDef (Str.ofString "_iter_escaped_chars") prm (pmBody 3) (pmScope 3) pm (.ref 27) doc), osl⟩ ∧
      bindArgs (docDef (Str.ofString "_iter_escaped_chars") prm (pmBody 3) (pmScope 3) pm (.ref 27) doc) ⟨[.str x t], []⟩ = pure [(Str.ofString "addr", .str x t)] := ⟨_, _, _, _, _, _, rfl, rfl⟩
  obtain ⟨oc, od, osl, pm, doc, prm, ho, hb⟩ := hlk
  have hk := h.toBase
  refine wpAny_call (codeAny_call_generator hroom (hk.k _ _ ho) rfl rfl rfl rfl (codeRec_of hk.k (by kernel_rfl)) (wpAny_of_eq hb ?_))
  refine wpAny_newFunctionEnv (show ∀ x ∈ (pmScope 3).names, x.2 ≠ .cell by decide) (by intro p hp; rw [List.mem_singleton.mp hp]; rfl) fun h' hn hs => ?_
  have keep : ∀ b o, s.heap.get? b = some o → h'.get? b = some o := fun b o e => (hs.2 b (Nat.ne_of_lt (Heap.lt_size e))).trans (Heap.get?_push_of_some _ e)
  have hlt : s.heap.objs.size < h'.objs.size := hn.lt
  refine ⟨hk.nolimit.keeps keep, ?_⟩
  have hCalm : Calm s { s with gens := s.gens.push (.fresh (.func (pmBody 3) (iterEnv s.heap.objs.size))), toks := s.toks + 1 + 1 + 1,
                               heap := h'.push { cls := .type "generator", data := .fields #[.int s.gens.size 0, .str (Str.ofString "_iter_escaped_chars") (s.toks + 1), .str (Str.ofString "_iter_escaped_chars") (s.toks + 1 + 1)] } } :=
    ⟨fun b o e => Heap.get?_push_of_some _ (keep b o e), rfl, fun i y e => by
      have : i < s.gens.size := by
        rcases Nat.lt_or_ge i s.gens.size with q | q
        · exact q
        · rw [Array.getElem?_eq_none q] at e; cases e
      rw [Array.getElem?_push_lt this, ← Array.getElem?_eq_getElem this]; exact e, fun b y hy => by
        rcases Array.mem_push.mp hy with q | q
        · exact b y q
        · rw [q]; rfl⟩
  refine k _ s.gens.size s.heap.objs.size _ (h.calm hCalm) ⟨⟨_, _, _, Heap.get?_push_size _ rfl, rfl, rfl, rfl⟩, ⟨_, hn.at' fun o e => Heap.get?_push_of_some _ e⟩, _, Array.getElem?_push_size, fun s'' lv => ?_⟩ h.freshL ?_
  · refine ⟨rfl, seg_start (prog := prog) (w := w) (A := A.in1) (C := s.heap.objs.size) (b₀ := s₀) (s := s'') (m := fun x' => [(Str.ofString "addr", Value.str x t)].reverse.lookup x') hh ⟨⟨h.base.k, h.base.t⟩, ⟨?_, fun b o e => lv.old b o e, ?_⟩, fun p hp => (nomatch hp), rfl, fun _ _ e => e, id, fun _ _ _ _ e => e, fun _ _ e => e, rfl, id⟩ rfl⟩
    · exact hn.at' fun o e => lv.own _ o (Heap.get?_push_of_some _ e) (.inl rfl)
    · exact Nat.le_of_lt (Nat.lt_of_le_of_lt h.fr.above h.ltL)
  · cases q : s₀.gens[s.gens.size]? with
    | none => rfl
    | some y =>
      have := h.gens _ _ q
      rw [Array.getElem?_eq_none (Nat.le_refl _)] at this
      cases this
end

section
variable {w : World} {A : Around} {s₀ sr s : Shared} {L C : Addr} {m : Str → Option Value} {D : List (Addr × Obj)} {W : List Addr} {name : Str} {scope : Scope} {f : Addr} {cd : Value} {prog : Program} {x : Str} {t : Tok}

theorem gen_loop {R : Result → Shared → Prop} {ts : List Expr} {ctx : Nat} {pos : Pos} {body : List Stmt} {J : List (Nat × List Nat) → (Str → Option Value) → List (Addr × Obj) → Prop} {items : List (Nat × List Nat)} {a : Addr} {g : Nat} (W : List Addr)
    (hh : A.handled = none) (hroom : A.depth < recursionLimit) (hCL : C ≠ L) (hg0 : s₀.gens[g]? = none)
    (hJD : ∀ rest m D, J rest m D → ∀ p ∈ D, ∃ vs n, p.2.data = .seq vs n) (hJW : ∀ rest m D, J rest m D → ∀ b ∈ W, ∃ o, (b, o) ∈ D)
    (step : ∀ p c rest m D T o tk u y s1, J ((p, c) :: rest) m D → TupO o [.int (p : Nat) tk, .str y u] → y.cps.toList = c → Loc w s₀ L m ((T, o) :: D) W s1 s1 →
      wpAny (model prog w) A (assign (.Tuple ts ctx pos) (envOf name scope L f cd) (.ref T)) (fun _ s2 => wpAny (model prog w) A (execs body (envOf name scope L f cd)) (fun fl s3 => match fl with
        | .next | .cont => ∃ m' D', J rest m' D' ∧ Loc w s₀ L m' D' W s1 s3
        | .brk => R (.ok .next) s3
        | .ret v => R (.ok (.ret v)) s3) FF s2) FF s1)
    (fin : ∀ m D s3, J [] m D → Loc w s₀ L m D W s3 s3 → R (.ok .next) s3)
    (hJ : J items m D) (h : Loc w s₀ L m D W sr s) (hG : GenIs prog w A.in1 s₀ a g C items items.length s) :
    codeAny (model prog w) A (.forLoop (.Tuple ts ctx pos) (.ref a) body [] (envOf name scope L f cd)) R s := by
  refine codeAny_forLoop_any (fun k s' => ∃ pre rest m D, items = pre ++ rest ∧ rest.length = k ∧ J rest m D ∧ Loc w s₀ L m D W s' s' ∧ GenIs prog w A.in1 s₀ a g C items k s') ?_ items.length
    ⟨[], items, m, D, rfl, rfl, hJ, h.snap W, hG⟩
  rintro k s' ⟨pre, rest, m, D, hpre, hlen, hJ, h, hgen, hC, gs, hgs, hgo⟩
  have hD := hJD _ _ _ hJ
  have h1 := h.setGen (x := .running) hg0 rfl W
  have hC1 : ∃ mC, (s'.setGen g .running).heap.Ns C mC := hC
  refine ff (next_gen (P := fun n s₀' s₁ => n = 0 ∧ GGo s₀.heap C s₀' s₁) hh h.toBase.nolimit hroom hgen hgs (hgo _ ⟨fun b o e => h.fr.keep b o e, fun _ _ e _ => e⟩) (fun v s₁ gs' hb hv => ?_) fun s₁ hp h' hk => ?_)
  · obtain ⟨⟨p, c, hpc, T, o, tk, u, y, rfl, hT, ho, hy⟩, gg, hkap⟩ := hv
    have h2 := (h1.ggo gg hCL hC1 hD W).setGen (x := gs') hg0 hb W
    have hC2 : ∃ mC, (s₁.setGen g gs').heap.Ns C mC := gg.ns hC1
    have hga : (s₁.setGen g gs').heap.IsGen a g := by
      obtain ⟨og, nm, qn, hog, hcg, hdg, hsg⟩ := hgen
      refine ⟨og, nm, qn, gg.heap _ _ hog (.inl ⟨ns_ne hC hog (by rw [hdg]; intro _ _ q; cases q), ?_⟩), hcg, hdg, hsg⟩
      rintro ⟨q, _⟩
      rw [hcg] at q
      rcases q with q | q | q <;> exact absurd q (by decide)
    have hgs2 : (s₁.setGen g gs').gens[g]? = some gs' := setGen_at (gg.gens _ _ (setGen_at hgs))
    cases rest with
    | nil =>
      simp only [List.length_nil] at hlen
      subst hlen
      exact (hkap s₁ ⟨fun b o e => h2.fr.keep b o e, fun _ _ e _ => e⟩).elim
    | cons q rest =>
      simp only [List.length_cons] at hlen
      subst hlen
      have hq := here_of (rest := rest) hpre rfl
      rw [Nat.add_sub_cancel] at hpc
      rw [hq] at hpc
      cases hpc
      have hTL : T ≠ L := let ⟨n, hd⟩ := ho.data; seq_ne h2.fr.ns hT hd
      have h3 := h2.add (b := T) (o := o) hT hTL
      obtain ⟨og, nm, qn, hog, hcg, hdg, hsg⟩ := hga
      have hgo : ∀ (Q' : Unit → Shared → Prop) (E' : Value → Shared → Prop), Q' () (s₁.setGen g gs') → wpAny (model prog w) A (letOwnedTupleGo (.Tuple ts ctx pos) (.ref a) (.ref T)) Q' E' (s₁.setGen g gs') := fun Q' E' hQ => by
        unfold letOwnedTupleGo
        refine wpAny_bind (wpAny_load hog ?_)
        rw [hcg, hdg]
        exact wpAny_pure hQ
      refine hgo _ _ (ff (wpAny_mono (step p c rest m D T o tk u y _ hJ ho hy h3) (fun _ s2 h4 => ff (wpAny_mono h4 (fun fl s3 h5 => ?_) fun _ _ x => x)) fun _ _ x => x))
      have next : (∃ m' D', J rest m' D' ∧ Loc w s₀ L m' D' W (s₁.setGen g gs') s3) → ∃ k', k' < rest.length + 1 ∧ ∃ pre rest m D, items = pre ++ rest ∧ rest.length = k' ∧ J rest m D ∧ Loc w s₀ L m D W s3 s3 ∧ GenIs prog w A.in1 s₀ a g C items k' s3 := by
        rintro ⟨m', D', hJ', h6⟩
        have hW : ∀ b ∈ W, ∃ o, (s₁.setGen g gs').heap.get? b = some o ∧ ∃ vs n, o.data = .seq vs n := fun b hb => by
          obtain ⟨o, hm⟩ := hJW _ _ _ hJ b hb
          exact ⟨o, h2.get hm, hD _ hm⟩
        have hns : ∀ b o, (s₁.setGen g gs').heap.get? b = some o → (∀ vs n, o.data ≠ .seq vs n) → b ≠ L → s3.heap.get? b = some o := fun b o e hq hL => h6.chg b o hL (fun hb => by
          obtain ⟨o', e', vs, n, hd⟩ := hW b hb
          rw [e] at e'
          cases e'
          exact hq _ _ hd) e
        refine ⟨rest.length, Nat.lt_succ_self _, pre ++ [(p, c)], rest, m', D', by rw [hpre]; simp, rfl, hJ', h6.snap W, ⟨og, nm, qn, hns a og hog (by rw [hdg]; intro _ _ q; cases q) (ns_ne ⟨_, h2.fr.ns⟩ hog (by rw [hdg]; intro _ _ q; cases q)), hcg, hdg, hsg⟩, ?_, gs', h6.sgens _ _ hgs2, fun s'' lv => hkap s'' ⟨lv.old, fun b o e hb => lv.own b o (hns b o e ?_ ?_) hb⟩⟩
        · obtain ⟨mC, oC, es, ep, hoC, hdC, r⟩ := hC2
          exact ⟨mC, oC, es, ep, hns C oC hoC (by rw [hdC]; intro _ _ q; cases q) hCL, hdC, r⟩
        · intro vs n q
          rcases hb with rfl | ⟨_, vs', q'⟩
          · exact ns_ne hC2 e (by rw [q]; intro _ _ q; cases q) rfl
          · rw [q] at q'; cases q'
        · rcases hb with rfl | ⟨_, vs', q'⟩
          · exact hCL
          · exact ns_ne ⟨_, h2.fr.ns⟩ e (by rw [q']; intro _ _ q; cases q)
      cases fl with
      | next => exact next h5
      | cont => exact next h5
      | brk => exact h5
      | ret v => exact h5
  · obtain ⟨hk0, gg⟩ := hp
    subst hk0
    rw [List.length_eq_zero_iff.mp hlen] at hJ
    have h2 := (h1.ggo gg hCL hC1 hD W).setGen (x := .finished) hg0 rfl W
    exact wpAny_execs_nil (fin m D _ hJ ((h2.calm (calm_heap (k := s₁.toks) hk)).snap W))
end

section
open PySem.Builtin PySem.Builtin.Str
abbrev tl (x : Str) : List Nat := x.cps.toList
theorem tl_len (x : Str) : (tl x).length = x.length := by simp [tl, Str.length]

theorem slice_clip {x : Str} {i j : Nat} : Txt.slice x (some (i : Int)) (some (j : Int)) = Txt.slice x (some ((min i x.length : Nat) : Int)) (some ((min j x.length : Nat) : Int)) := by
  have e : strSliceIndices (some (i : Int)) (some (j : Int)) 1 x.length = strSliceIndices (some ((min i x.length : Nat) : Int)) (some ((min j x.length : Nat) : Int)) 1 x.length := by
    have a1 : ¬ ((i : Int) < 0) := by omega
    have a2 : ¬ ((j : Int) < 0) := by omega
    have a3 : ¬ (((min i x.length : Nat) : Int) < 0) := by omega
    have a4 : ¬ (((min j x.length : Nat) : Int) < 0) := by omega
    have e1 : max (0 : Int) (min (i : Int) x.length) = max (0 : Int) (min ((min i x.length : Nat) : Int) x.length) := by omega
    have e2 : max (0 : Int) (min (j : Int) x.length) = max (0 : Int) (min ((min j x.length : Nat) : Int) x.length) := by omega
    simp only [strSliceIndices, a1, a2, a3, a4, if_false, e1, e2, show ((1 : Int) > 0) = True from by simp, if_true]
  unfold Txt.slice
  rw [e]
theorem slice_nat (x : Str) (i j : Nat) : tl (Txt.slice x (some (i : Int)) (some (j : Int))) = ((tl x).take j).drop i := by
  rw [slice_clip]
  by_cases h : min i x.length ≤ min j x.length
  · have := StrLaws.sliceText_nat x h (Nat.min_le_right _ _)
    rw [show Txt.slice x _ _ = StrLaws.sliceText x _ _ from rfl, this]
    have hl := tl_len x
    simp only [tl] at hl ⊢
    rw [List.drop_take]
    by_cases hi : i ≤ x.length
    · rw [Nat.min_eq_left hi] at h ⊢
      by_cases hj : j ≤ x.length
      · rw [Nat.min_eq_left hj]
      · rw [Nat.min_eq_right (by omega)]
        rw [List.take_of_length_le (by rw [List.length_drop]; omega), List.take_of_length_le (by rw [List.length_drop]; omega)]
    · rw [Nat.min_eq_right (by omega), List.drop_of_length_le (by omega), List.drop_of_length_le (i := i) (by omega)]
      simp
  · have hl := tl_len x
    have hji : j < i := by omega
    have e : strSliceIndices (some ((min i x.length : Nat) : Int)) (some ((min j x.length : Nat) : Int)) 1 x.length = [] := by
      have a3 : ¬ (((min i x.length : Nat) : Int) < 0) := by omega
      have a4 : ¬ (((min j x.length : Nat) : Int) < 0) := by omega
      have e1 : max (0 : Int) (min ((min i x.length : Nat) : Int) x.length) = ((min i x.length : Nat) : Int) := by omega
      have e2 : max (0 : Int) (min ((min j x.length : Nat) : Int) x.length) = ((min j x.length : Nat) : Int) := by omega
      have e3 : ¬ (((min i x.length : Nat) : Int) < ((min j x.length : Nat) : Int)) := by omega
      simp only [strSliceIndices, a3, a4, if_false, e1, e2, show ((1 : Int) > 0) = True from by simp, if_true, sliceRange, e3]
      simp
    rw [List.drop_of_length_le (by rw [List.length_take]; omega)]
    unfold Txt.slice
    rw [e]
    by_cases h0 : x.length = 0
    · omega
    · rw [if_neg (by simp; omega)]
      rfl
theorem slice_from (x : Str) (i : Nat) : tl (Txt.slice x (some (i : Int)) none) = (tl x).drop i := by
  have e : Txt.slice x (some (i : Int)) none = Txt.slice x (some (i : Int)) (some (x.length : Int)) := by
    unfold Txt.slice
    rw [StrLaws.sliceIdx_none_hi]
  rw [e, slice_nat, List.take_of_length_le (by rw [tl_len]; exact Nat.le_refl _)]

def joinL (z : List Nat) : List (List Nat) → List Nat
  | [] => []
  | [x] => x
  | x :: rest => x ++ z ++ joinL z rest
theorem join_tl (z : Str) : ∀ ys : List Str, tl (Txt.join z ys) = joinL (tl z) (ys.map tl) := by
  intro ys
  show tl (glued z ys) = _
  rw [StrLaws.glued_eq_join]
  induction ys with
  | nil => rfl
  | cons y r ih => cases r with
    | nil => rfl
    | cons z' r =>
      show tl (y ++ z ++ Str.join z (z' :: r)) = _
      simp only [List.map_cons, joinL] at ih ⊢
      rw [← ih]
      simp [tl, Str.cps_append]
theorem joinL_nil : ∀ ys : List (List Nat), joinL [] ys = ys.flatten
  | [] => rfl
  | [x] => by simp [joinL]
  | x :: y :: r => by
    have := joinL_nil (y :: r)
    simp only [joinL, List.append_nil, List.flatten_cons] at this ⊢
    rw [this]

/-- cut at each y, from the left -/
def splitL (y : List Nat) : Nat → List Nat → List (List Nat)
  | _, [] => [[]]
  | k + 1, _ :: l => splitL y k l
  | 0, c :: l => if (c :: l).take y.length = y then [] :: splitL y (y.length - 1) l else match splitL y 0 l with
    | [] => [[c]]
    | p :: r => (c :: p) :: r
theorem splitL_ne (y : List Nat) : ∀ (k : Nat) (l : List Nat), ∃ p r, splitL y k l = p :: r
  | _, [] => ⟨_, _, by unfold splitL; rfl⟩
  | k + 1, _ :: l => by unfold splitL; exact splitL_ne y k l
  | 0, c :: l => by
    unfold splitL
    split
    · exact ⟨_, _, rfl⟩
    · obtain ⟨p, r, e⟩ := splitL_ne y 0 l
      rw [e]
      exact ⟨_, _, rfl⟩
theorem splitL_skip (y : List Nat) : ∀ (k : Nat) (l : List Nat), splitL y k l = splitL y 0 (l.drop k)
  | 0, l => by simp
  | k + 1, [] => by simp [splitL]
  | k + 1, c :: l => by
    rw [List.drop_succ_cons, ← splitL_skip y k l]
    conv => lhs; unfold splitL

theorem at_take {x y : Str} {k : Nat} (hw : 1 ≤ y.length) : StrLaws.At x y x.length k ↔ ((tl x).drop k).take y.length = tl y := by
  constructor
  · rintro ⟨_, h⟩
    rw [StrLaws.subAt_eq, beq_iff_eq] at h
    exact h
  · intro h
    refine ⟨?_, by rw [StrLaws.subAt_eq, beq_iff_eq]; exact h⟩
    have := congrArg List.length h
    rw [List.length_take, List.length_drop, tl_len, tl_len] at this
    omega
theorem splitL_hit {y l : List Nat} {c : Nat} (h : (c :: l).take y.length = y) : splitL y 0 (c :: l) = [] :: splitL y (y.length - 1) l := by
  rw [splitL.eq_3, if_pos h]
theorem splitL_miss {y l p : List Nat} {r : List (List Nat)} {c : Nat} (h : (c :: l).take y.length ≠ y) (e : splitL y 0 l = p :: r) : splitL y 0 (c :: l) = (c :: p) :: r := by
  rw [splitL.eq_3, if_neg h, e]
theorem splitL_none {y : List Nat} : ∀ (l : List Nat), (∀ k, (l.drop k).take y.length ≠ y) → splitL y 0 l = [l]
  | [], _ => rfl
  | c :: l, h => by
    exact splitL_miss (h 0) (splitL_none l fun k => h (k + 1))
theorem splitL_first {y : List Nat} (hw : 1 ≤ y.length) : ∀ (d : Nat) (l : List Nat), (∀ k, k < d → (l.drop k).take y.length ≠ y) → (l.drop d).take y.length = y → splitL y 0 l = l.take d :: splitL y 0 (l.drop (d + y.length))
  | 0, [], _, h => by
    have := congrArg List.length h
    simp at this; omega
  | 0, c :: l, _, h => by
    rw [splitL_hit h, splitL_skip]
    obtain ⟨n, hn⟩ : ∃ n, y.length = n + 1 := ⟨y.length - 1, by omega⟩
    rw [hn, Nat.zero_add, List.drop_succ_cons]
    rfl
  | d + 1, [], h0, h => by
    have := congrArg List.length h
    simp at this; omega
  | d + 1, c :: l, h0, h => by
    have ih := splitL_first hw d l (fun k hk => h0 (k + 1) (by omega)) h
    rw [splitL_miss (h0 0 (by omega)) ih]
    rw [show d + 1 + y.length = (d + y.length) + 1 by omega, List.drop_succ_cons, List.take_succ_cons]
theorem parts_splitL (x y : Str) (hw : 1 ≤ y.length) : ∀ (cuts : List Nat) (a f : Nat), StrLaws.ChainG x y x.length a cuts f → (∀ k, f ≤ k → ¬ StrLaws.At x y x.length k) → (StrLaws.partsFrom x y.length a cuts).map tl = splitL (tl y) 0 ((tl x).drop a)
  | [], a, f, h, hn => by
    have e : f = a := h
    subst e
    rw [splitL_none]
    · show [tl (strSub x f x.length)] = _
      rw [show tl (strSub x f x.length) = _ from StrLaws.strSub_toList x f x.length, List.take_of_length_le (by rw [List.length_drop]; exact Nat.le_of_eq (by rw [show x.cps.toList.length = x.length from tl_len x]))]
    · intro k hk
      rw [List.drop_drop, tl_len] at hk
      exact hn (f + k) (by omega) ((at_take hw).mpr hk)
  | c :: r, a, f, h, hn => by
    obtain ⟨hac, hA, hno, hr⟩ := h
    have ih := parts_splitL x y hw r (c + y.length) f hr hn
    rw [splitL_first (y := tl y) (by rw [tl_len]; exact hw) (c - a)]
    · show tl (strSub x a c) :: (StrLaws.partsFrom x y.length (c + y.length) r).map tl = _
      rw [ih, show tl (strSub x a c) = _ from StrLaws.strSub_toList x a c, List.drop_drop, tl_len]
      rw [show a + (c - a + y.length) = c + y.length by omega]
    · intro k hk q
      rw [List.drop_drop, tl_len] at q
      exact hno (a + k) (by omega) (by omega) ((at_take hw).mpr q)
    · rw [List.drop_drop, tl_len, show a + (c - a) = c by omega]
      exact (at_take hw).mp hA
theorem split_tl (x y : Str) (hw : 1 ≤ y.length) (hk : Str.strKind y = 1) : (Txt.split x y).map tl = splitL (tl y) 0 (tl x) := by
  obtain ⟨f, hG, hn⟩ := StrLaws.occ_tight x y hw
  have hp := parts_splitL x y hw _ 0 f hG hn
  rw [List.drop_zero] at hp
  have hone : (∀ k, ¬ StrLaws.At x y x.length k) → [x].map tl = splitL (tl y) 0 (tl x) := fun h => by
    rw [splitL_none]
    · rfl
    · intro k q
      rw [tl_len] at q
      exact h k ((at_take hw).mpr q)
  unfold Txt.split
  split
  · rename_i h
    refine hone fun k q => ?_
    have := q.1
    have hk2 : 1 ≤ Str.strKind x := by unfold Str.strKind; split <;> (try split) <;> omega
    simp only [Bool.or_eq_true, decide_eq_true_eq] at h
    omega
  · split
    · rename_i h
      have e := List.isEmpty_iff.mp h
      rw [e] at hG
      have e0 : f = 0 := hG
      exact hone fun k => hn k (by omega)
    · rw [StrLaws.partsBetween_eq]
      exact hp
end

/-- these values are texts of these signs -/
def Strs (vs : List Value) (bs : List (List Nat)) : Prop := ∃ ys : List (Str × Tok), vs = strValues ys ∧ ys.map (fun p => tl p.1) = bs
theorem Strs.nil : Strs [] [] := ⟨[], rfl, rfl⟩
theorem Strs.snoc {vs : List Value} {bs : List (List Nat)} (h : Strs vs bs) (y : Str) (t : Tok) : Strs (vs ++ [.str y t]) (bs ++ [tl y]) := by
  obtain ⟨ys, rfl, rfl⟩ := h
  exact ⟨ys ++ [(y, t)], by simp [strValues], by simp⟩
theorem Strs.len {vs : List Value} {bs : List (List Nat)} (h : Strs vs bs) : vs.length = bs.length := by
  obtain ⟨ys, rfl, rfl⟩ := h
  simp [strValues]

theorem joinOk_few {z : Str} {ys : List Str} (hz : z.length ≤ 1) (hn : ys.length ≤ 4000) (hall : ∀ y ∈ ys, y.length ≤ 2000) : JoinOk z ys = true := by
  unfold JoinOk
  rw [show (ys.toArray.foldl (· + ·.length + z.length) 0) = ys.toArray.foldl (fun a p => a + p.length + z.length) 0 from rfl, StrLaws.joinFits (B := 2000) hall]
  · rfl
  · have h1 : ys.length * 2000 ≤ 4000 * 2000 := Nat.mul_le_mul_right _ hn
    have h2 : ys.length * z.length ≤ 4000 * 1 := Nat.mul_le_mul hn hz
    omega
theorem r_joinS {w : World} {A : Around} {E : Value → Shared → Prop} {s₀ sr s : Shared} {L : Addr} {m : Str → Option Value} {D : List (Addr × Obj)} {W : List Addr} {prog : Program} {z : Str} {t : Tok} {r : Addr} {o : Obj} {vs : List Value} {bs : List (List Nat)} {Q : Value → Shared → Prop}
    (h : Loc w s₀ L m D W sr s) (hr : (r, o) ∈ D) (ho : ListO o vs) (hvs : Strs vs bs) (hz : z.length ≤ 1) (hn : bs.length ≤ 4000) (hall : ∀ b ∈ bs, b.length ≤ 2000)
    (g : ∀ y t s', tl y = joinL (tl z) bs → Loc w s₀ L m D W sr s' → Q (.str y t) s') : wpAny (model prog w) A (call (.builtin "str.join") [.str z t, .ref r]) Q E s := by
  obtain ⟨ys, rfl, rfl⟩ := hvs
  refine r_join h hr ho (joinOk_few hz (by simpa using hn) fun y hy => ?_) fun t' s' h' => g _ t' s' ?_ h'
  · obtain ⟨p, hp, rfl⟩ := List.mem_map.mp hy
    rw [← tl_len]
    exact hall _ (List.mem_map.mpr ⟨p, hp, rfl⟩)
  · rw [join_tl, List.map_map]
    rfl

def stStep (l : List Nat) (σ : Nat × Option Nat × List (List Nat)) (e : Nat × List Nat) : Nat × Option Nat × List (List Nat) :=
  if e.2 = [34] then match σ.2.1 with
    | none => (σ.1, some e.1, σ.2.2)
    | some q => (e.1 + 1, none, if σ.1 ≠ q then σ.2.2 ++ [(l.take q).drop σ.1] else σ.2.2)
  else σ
def stripF (l : List Nat) : List Nat :=
  if 34 ∈ l then (((itemsF l 0 false).foldl (stStep l) (0, none, [])).2.2 ++ (if ((itemsF l 0 false).foldl (stStep l) (0, none, [])).1 < l.length then [l.drop ((itemsF l 0 false).foldl (stStep l) (0, none, [])).1] else [])).flatten
  else l

theorem itemsF_len : ∀ (l : List Nat) (i : Nat) (e : Bool), (itemsF l i e).length ≤ l.length + (if e then 1 else 0)
  | [], i, e => by cases e <;> simp [itemsF]
  | c :: cs, i, true => by
    have := itemsF_len cs (i + 1) false
    simp only [itemsF, List.length_cons] at this ⊢
    simp at this ⊢; omega
  | c :: cs, i, false => by
    have h1 := itemsF_len cs (i + 1) true
    have h2 := itemsF_len cs (i + 1) false
    simp only [itemsF]
    split <;> simp at * <;> omega

theorem strip_is34 {x : Str} : ((!(Builtin.Str.occurrences x (Str.ofString "\"") 0 x.length 1).isEmpty)) = decide (34 ∈ tl x) := by
  rw [show Str.ofString "\"" = ⟨#[34]⟩ by decide]
  exact StrLaws.found_one x 34

theorem str_eq (x y : Str) : (x == y) = decide (tl x = tl y) := by
  by_cases h : tl x = tl y
  · rw [decide_eq_true h, Str.ext' (Array.toList_inj.mp h), beq_self_eq_true]
  · rw [decide_eq_false h, beq_eq_false_iff_ne]
    rintro rfl
    exact h rfl

theorem int_none (i : Int) (t : Tok) : (Value.int i t == Value.none) = false := beq_eq_false_iff_ne.mpr (by intro x; cases x)
theorem int_ne (i j : Nat) : ((i : Int) != (j : Int)) = !decide (i = j) := by
  by_cases h : i = j
  · subst h; simp
  · simp [h]
    omega

/-- the loop's invariant -/
structure StJ (l : List Nat) (x : Str) (t : Tok) (r : Addr) (n : Nat) (fin : Nat × Option Nat × List (List Nat)) (rest : List (Nat × List Nat)) (m : Str → Option Value) (D : List (Addr × Obj)) : Prop where
  ex : ∃ st op acc o vs ts, D = [(r, o)] ∧ LstO o vs ∧ Strs vs acc ∧ rest.foldl (stStep l) (st, op, acc) = fin ∧ acc.length + rest.length ≤ n ∧ (∀ b ∈ acc, b.length ≤ l.length) ∧
    m (Str.ofString "start") = some (.int (st : Nat) ts) ∧ m (Str.ofString "result") = some (.ref r) ∧ m (Str.ofString "addr") = some (.str x t) ∧
    (match op with | none => m (Str.ofString "open_pos") = some .none | some q => ∃ tq, m (Str.ofString "open_pos") = some (.int (q : Nat) tq))

set_option maxHeartbeats 4000000 in
theorem strip_ok {w : World} {A : Around} {E : Value → Shared → Prop} {s : Shared} {x : Str} {t : Tok} {Q : Value → Shared → Prop} (B : Base w s) (R : Room A 2) (hx : x.length ≤ 2000)
    (g : ∀ y t' s', tl y = stripF (tl x) → Calm s s' → Q (.str y t') s') : wpAny (model Challenge.rw_pm0006_01.row.prog w) A (call (.ref 35) [.str x t]) Q E s := by
  refine enter (d := 1) (binds := [(Str.ofString "addr", .str x t)]) B (R.mono (by decide)) rfl (by kernel_rfl) rfl (locs rfl) fun L s1 h => ?_
  have hl := tl_len x
  have hil : (itemsF (tl x) 0 false).length ≤ x.length := by
    have := itemsF_len (tl x) 0 false
    rw [hl] at this
    simpa using this
  walk_at "pms"
  rw [strip_is34]
  by_cases h34 : 34 ∈ tl x
  · rw [decide_eq_true h34]
    walk_at "pms"
    rw [if_neg (by decide)]
    walk_at "pms"
    refine wpAny_For ?_
    walk_at "pms"
    refine ⟨r_fn (by assumption) rfl, ?_⟩
    rename s.heap.get? _ = none => hr0
    rename LstO _ _ => ho0
    rename Addr => r
    have hRd : (A.deeper (envOf (Str.ofString "_strip_quoted_realnames") (pmScope 4) L 35 (.ref 34))).depth < recursionLimit := Nat.lt_of_le_of_lt (by show A.depth + 1 ≤ A.depth + 2; omega) R.2.1
    refine r_mkgen (by assumption) R.1 hRd fun a gn C s2 h2 hG hCL hg0 => ?_
    refine wpAny_pyIter_gen hG.1 ?_
    refine gen_loop (J := StJ (tl x) x t _ (itemsF (tl x) 0 false).length ((itemsF (tl x) 0 false).foldl (stStep (tl x)) (0, none, []))) [r] R.1 hRd hCL hg0 ?_ ?_ ?_ ?_
      ⟨0, none, [], _, [], _, rfl, ho0, Strs.nil, rfl, by simp, by simp, rfl, rfl, rfl, rfl⟩ (h2.weakW (fun b hb => (nomatch hb))) hG
    · rintro rest m D ⟨st, op, acc, o, vs, ts, rfl, ho, _⟩ p hp
      rw [List.mem_singleton.mp hp]
      exact ho.weak.data.elim fun n e => ⟨_, n, e⟩
    · rintro rest m D ⟨st, op, acc, o, vs, ts, rfl, ho, _⟩ b hb
      rw [List.mem_singleton.mp hb]
      exact ⟨o, .head _⟩
    · rintro p c rest m D T oT tk u y s3 ⟨st, op, acc, o, vs, ts, rfl, ho, hvs, hfin, hlen, hall, mst, mre, mad, mop⟩ hT hy h3
      refine r_unpack2 h3 R.1 (.head _) hT fun s4 h4 => ?_
      walk_at "pms"
      rw [str_eq, show tl (Str.ofString "\"") = [34] by decide, show tl y = c from hy]
      simp only [List.foldl_cons, List.length_cons] at hfin hlen
      by_cases hc : c = [34]
      · rw [decide_eq_true hc, if_pos rfl]
        cases op with
        | none =>
          walk_at "pms"
          rw [if_pos (by decide)]
          walk_at "pms"
          rename Loc _ _ _ _ _ _ _ _ => h5
          refine ⟨_, _, ⟨st, some p, acc, o, vs, ts, rfl, ho, hvs, ?_, by omega, hall, by walk_at "lk", by walk_at "lk", by walk_at "lk", tk, by walk_at "lk"⟩, h5.sub fun p hp => .tail _ hp⟩
          rw [← hfin]
          simp [stStep, hc]
        | some q =>
          obtain ⟨tq, mop⟩ := mop
          walk_at "pms"
          rw [int_none, if_neg Bool.false_ne_true]
          walk_at "pms"
          rw [int_ne]
          by_cases hq : st = q
          · rw [decide_eq_true hq, if_neg (by decide)]
            walk_at "pms"
            rename Loc _ _ _ _ _ _ _ _ => h5
            refine ⟨_, _, ⟨p + 1, none, acc, o, vs, _, rfl, ho, hvs, ?_, by omega, hall, by walk_at "lk", by walk_at "lk", by walk_at "lk", by walk_at "lk"⟩, h5.sub fun p hp => .tail _ hp⟩
            rw [← hfin]
            simp [stStep, hc, hq]
          · rw [decide_eq_false hq, if_pos (by decide)]
            walk_at "pms"
            refine r_str_cut (by assumption) (by rw [sizeLine_eq]; omega) ?_
            intro _ _ _
            walk_at "pms"
            rename Loc _ _ _ _ _ _ _ _ => h5
            show wpAny _ _ (call (.builtin "list.append") [.ref r, .str _ _]) _ _ _
            refine r_append (D := []) (h5.sub fun p hp => .tail _ hp) ho (.head _) hr0 (fun p hp => (nomatch hp)) (by rw [hvs.len, sizeLine_eq]; omega) fun o' s6 ho' h6 => ?_
            walk_at "pms"
            rename Loc _ _ _ _ _ _ _ _ => h7
            refine ⟨_, _, ⟨p + 1, none, _, o', _, _, rfl, ho', hvs.snoc _ _, ?_, ?_, ?_, by walk_at "lk", by walk_at "lk", by walk_at "lk", by walk_at "lk"⟩, h7⟩
            · rw [← hfin, slice_nat]
              simp [stStep, hc, hq]
            · simp
              omega
            · intro b hb
              rcases List.mem_append.mp hb with hb | hb
              · exact hall b hb
              · rw [List.mem_singleton.mp hb, slice_nat, List.length_drop, List.length_take]
                omega
      · rw [decide_eq_false hc, if_neg Bool.false_ne_true]
        walk_at "pms"
        rename Loc _ _ _ _ _ _ _ _ => h5
        refine ⟨_, _, ⟨st, op, acc, o, vs, ts, rfl, ho, hvs, ?_, by omega, hall, by walk_at "lk", by walk_at "lk", by walk_at "lk", ?_⟩, h5.sub fun p hp => .tail _ hp⟩
        · rw [← hfin]
          simp [stStep, hc]
        · cases op with
          | none => exact (upd_ne (by decide)).trans ((upd_ne (by decide)).trans mop)
          | some q => exact ⟨_, (upd_ne (by decide)).trans ((upd_ne (by decide)).trans mop.choose_spec)⟩
    · rintro m D s3 ⟨st, op, acc, o, vs, ts, rfl, ho, hvs, hfin, hlen, hall, mst, mre, mad, mop⟩ h3
      show wpAny _ _ (execs _ _) _ _ _
      walk_at "pms"
      refine r_len_str (by assumption) (by rw [sizeLine_eq]; omega) ?_
      intro _ _ _
      walk_at "pms"
      simp only [List.length_nil, Nat.add_zero] at hlen
      have hst : decide ((st : Int) < (x.length : Int)) = decide (st < (tl x).length) := by rw [hl]; simp
      have hfs : ((itemsF (tl x) 0 false).foldl (stStep (tl x)) (0, none, [])).1 = st ∧ ((itemsF (tl x) 0 false).foldl (stStep (tl x)) (0, none, [])).2.2 = acc := by rw [← hfin]; exact ⟨rfl, rfl⟩
      rw [hst]
      by_cases hlt : st < (tl x).length
      · rw [decide_eq_true hlt, if_pos rfl]
        walk_at "pms"
        refine r_str_from (by assumption) (by rw [sizeLine_eq]; omega) ?_
        intro _ _ _
        walk_at "pms"
        rename Loc _ _ _ _ _ _ _ _ => h5
        show wpAny _ _ (call (.builtin "list.append") [.ref r, .str _ _]) _ _ _
        refine r_append (D := []) h5 ho (.head _) hr0 (fun p hp => (nomatch hp)) (by rw [hvs.len, sizeLine_eq]; omega) fun o' s6 ho' h6 => ?_
        walk_at "pms"
        rename Loc _ _ _ _ _ _ _ _ => h7
        show wpAny _ _ (call (.builtin "str.join") [.str _ _, .ref r]) _ _ _
        refine r_joinS h7 (.head _) ho'.weak (hvs.snoc _ _) (by decide) (by simp; omega) ?_ fun y ty s8 hy h8 => ?_
        · intro b hb
          rcases List.mem_append.mp hb with hb | hb
          · have := hall b hb
            omega
          · rw [List.mem_singleton.mp hb, slice_from, List.length_drop]
            omega
        · refine g _ _ _ ?_ h8.done
          rw [hy, show tl (Str.ofString "") = [] by decide, joinL_nil, slice_from]
          unfold stripF
          rw [if_pos h34, hfs.1, hfs.2, if_pos hlt]
      · rw [decide_eq_false hlt, if_neg Bool.false_ne_true]
        walk_at "pms"
        rename Loc _ _ _ _ _ _ _ _ => h7
        show wpAny _ _ (call (.builtin "str.join") [.str _ _, .ref r]) _ _ _
        refine r_joinS h7 (.head _) ho.weak hvs (by decide) (by omega) ?_ fun y ty s8 hy h8 => ?_
        · intro b hb
          have := hall b hb
          omega
        · refine g _ _ _ ?_ h8.done
          rw [hy, show tl (Str.ofString "") = [] by decide, joinL_nil]
          unfold stripF
          rw [if_pos h34, hfs.1, hfs.2, if_neg hlt, List.append_nil]
  · rw [decide_eq_false h34]
    walk_at "pms"
    rw [if_pos (by decide)]
    walk_at "pms"
    refine g _ _ _ ?_ (Loc.done (by assumption))
    unfold stripF
    rw [if_neg h34]

/-- strip, sign by sign: a quotation is held back till it ends -/
def stripA : Bool → Option (List Nat) → List Nat → List Nat
  | _, none, [] => []
  | _, some b, [] => b
  | true, none, c :: l => c :: stripA false none l
  | true, some b, c :: l => stripA false (some (b ++ [c])) l
  | false, none, c :: l => if c = 34 then stripA false (some [34]) l else c :: stripA (decide (c = 92)) none l
  | false, some b, c :: l => if c = 34 then stripA false none l else stripA (decide (c = 92)) (some (b ++ [c])) l

def stFin (l : List Nat) (σ : Nat × Option Nat × List (List Nat)) : List Nat := (σ.2.2 ++ (if σ.1 < l.length then [l.drop σ.1] else [])).flatten
theorem stFin_eq (l : List Nat) (st : Nat) (op : Option Nat) (acc : List (List Nat)) : stFin l (st, op, acc) = acc.flatten ++ l.drop st := by
  unfold stFin
  by_cases h : st < l.length
  · simp [h]
  · simp [h, List.drop_of_length_le (Nat.le_of_not_lt h)]

theorem take_succ_drop {l : List Nat} {i st c : Nat} {r : List Nat} (h : l.drop i = c :: r) (hs : st ≤ i) : (l.take (i + 1)).drop st = (l.take i).drop st ++ [c] := by
  have hi : i < l.length := by
    rcases Nat.lt_or_ge i l.length with q | q
    · exact q
    · rw [List.drop_of_length_le q] at h; cases h
  have hc : l[i]? = some c := by
    have : (l.drop i)[0]? = some c := by rw [h]; rfl
    simpa using this
  rw [List.take_add_one, hc, List.drop_append_of_le_length (by rw [List.length_take]; omega)]
  rfl
theorem drop_succ' {l : List Nat} {i c : Nat} {r : List Nat} (h : l.drop i = c :: r) : l.drop (i + 1) = r := by
  have : (l.drop i).drop 1 = r := by rw [h]; rfl
  rwa [List.drop_drop] at this

theorem stripA_run (l : List Nat) : ∀ (r : List Nat) (i : Nat) (esc : Bool), l.drop i = r → i ≤ l.length →
    (∀ st acc, st ≤ i → stFin l ((itemsF r i esc).foldl (stStep l) (st, none, acc)) = acc.flatten ++ (l.take i).drop st ++ stripA esc none r) ∧
    (∀ st q acc, st ≤ q → q ≤ i → stFin l ((itemsF r i esc).foldl (stStep l) (st, some q, acc)) = acc.flatten ++ (l.take q).drop st ++ stripA esc (some ((l.take i).drop q)) r)
  | [], i, esc, h, hi => by
    have hil : i = l.length := by
      have := congrArg List.length h
      simp at this; omega
    have hs : ∀ σ, (itemsF [] i esc).foldl (stStep l) σ = σ := fun σ => by
      cases esc <;> simp [itemsF, stStep]
    refine ⟨fun st acc hst => ?_, fun st q acc hst hq => ?_⟩
    · rw [hs, stFin_eq, hil, List.take_length]
      simp [stripA]
    · rw [hs, stFin_eq, hil, List.take_length]
      simp only [stripA, List.append_assoc]
      rw [show l.drop st = (l.take q).drop st ++ l.drop q by
        rw [← List.drop_append_of_le_length (by rw [List.length_take]; omega), List.take_append_drop]]
  | c :: r, i, true, h, hi => by
    have hr := drop_succ' h
    have hi1 : i + 1 ≤ l.length := by
      have := congrArg List.length h
      simp at this; omega
    have ih := stripA_run l r (i + 1) false hr hi1
    have hs : ∀ σ, (itemsF (c :: r) i true).foldl (stStep l) σ = (itemsF r (i + 1) false).foldl (stStep l) σ := fun σ => by
      simp [itemsF, stStep]
    refine ⟨fun st acc hst => ?_, fun st q acc hst hq => ?_⟩
    · rw [hs, ih.1 st acc (by omega), take_succ_drop h hst]
      simp [stripA]
    · rw [hs, ih.2 st q acc hst (by omega), take_succ_drop h hq]
      simp [stripA]
  | c :: r, i, false, h, hi => by
    have hr := drop_succ' h
    have hi1 : i + 1 ≤ l.length := by
      have := congrArg List.length h
      simp at this; omega
    by_cases h92 : c = 92
    · have ih := stripA_run l r (i + 1) true hr hi1
      have hs : ∀ σ, (itemsF (c :: r) i false).foldl (stStep l) σ = (itemsF r (i + 1) true).foldl (stStep l) σ := fun σ => by
        simp [itemsF, h92]
      refine ⟨fun st acc hst => ?_, fun st q acc hst hq => ?_⟩
      · rw [hs, ih.1 st acc (by omega), take_succ_drop h hst]
        simp [stripA, h92]
      · rw [hs, ih.2 st q acc hst (by omega), take_succ_drop h hq]
        simp [stripA, h92]
    · have ih := stripA_run l r (i + 1) false hr hi1
      have hs : ∀ σ, (itemsF (c :: r) i false).foldl (stStep l) σ = (itemsF r (i + 1) false).foldl (stStep l) (stStep l σ (i, [c])) := fun σ => by
        simp [itemsF, h92]
      by_cases h34 : c = 34
      · refine ⟨fun st acc hst => ?_, fun st q acc hst hq => ?_⟩
        · rw [hs]
          have e : stStep l (st, none, acc) (i, [c]) = (st, some i, acc) := by simp [stStep, h34]
          rw [e, ih.2 st i acc hst (by omega), take_succ_drop h (Nat.le_refl _), List.drop_of_length_le (i := i) (l := l.take i) (by rw [List.length_take]; omega)]
          simp [stripA, h34]
        · rw [hs]
          have e : stStep l (st, some q, acc) (i, [c]) = (i + 1, none, if st ≠ q then acc ++ [(l.take q).drop st] else acc) := by simp [stStep, h34]
          rw [e, ih.1 (i + 1) _ (Nat.le_refl _), List.drop_of_length_le (l := l.take (i + 1)) (by rw [List.length_take]; omega)]
          have e2 : (if st ≠ q then acc ++ [(l.take q).drop st] else acc).flatten = acc.flatten ++ (l.take q).drop st := by
            by_cases hq' : st = q
            · subst hq'
              rw [List.drop_of_length_le (l := l.take st) (by rw [List.length_take]; omega)]
              simp
            · simp [hq']
          rw [e2]
          simp [stripA, h34]
      · have e : ∀ σ, stStep l σ (i, [c]) = σ := fun σ => by simp [stStep, h34]
        refine ⟨fun st acc hst => ?_, fun st q acc hst hq => ?_⟩
        · rw [hs, e, ih.1 st acc (by omega), take_succ_drop h hst]
          simp [stripA, h34, h92]
        · rw [hs, e, ih.2 st q acc hst (by omega), take_succ_drop h hq]
          simp [stripA, h34, h92]

theorem stripA_free : ∀ (l : List Nat) (e : Bool), 34 ∉ l → stripA e none l = l
  | [], e, _ => by cases e <;> rfl
  | c :: l, true, h => by
    have ih := stripA_free l false (fun q => h (.tail _ q))
    simp [stripA, ih]
  | c :: l, false, h => by
    have h1 : c ≠ 34 := fun q => h (q ▸ .head _)
    have ih := stripA_free l (decide (c = 92)) (fun q => h (.tail _ q))
    simp [stripA, h1, ih]
theorem stripF_eq (l : List Nat) : stripF l = stripA false none l := by
  unfold stripF
  by_cases h : 34 ∈ l
  · rw [if_pos h]
    have := (stripA_run l l 0 false rfl (Nat.zero_le _)).1 0 [] (Nat.le_refl _)
    simp only [List.flatten_nil, List.take_zero, List.drop_nil, List.nil_append] at this
    exact this
  · rw [if_neg h, stripA_free l false h]
theorem stripA_len : ∀ (l : List Nat) (e : Bool) (b : Option (List Nat)), (stripA e b l).length ≤ (b.getD []).length + l.length
  | [], e, none => by cases e <;> simp [stripA]
  | [], e, some b => by cases e <;> simp [stripA]
  | c :: l, true, none => by
    have := stripA_len l false none
    simp [stripA] at this ⊢; omega
  | c :: l, true, some b => by
    have := stripA_len l false (some (b ++ [c]))
    simp [stripA] at this ⊢; omega
  | c :: l, false, none => by
    have h1 := stripA_len l false (some [34])
    have h2 := stripA_len l (decide (c = 92)) none
    simp only [stripA]
    split <;> simp at * <;> omega
  | c :: l, false, some b => by
    have h1 := stripA_len l false none
    have h2 := stripA_len l (decide (c = 92)) (some (b ++ [c]))
    simp only [stripA]
    split <;> simp at * <;> omega
theorem stripF_len (l : List Nat) : (stripF l).length ≤ l.length := by
  rw [stripF_eq]
  have := stripA_len l false none
  simpa using this

def ckF : List (Nat × List Nat) → Int → Bool
  | [], n => n == 0
  | (_, c) :: r, n => if c = [40] then ckF r (n + 1) else if c = [41] then (if n - 1 < 0 then false else ckF r (n - 1)) else ckF r n
def checkF (l : List Nat) : Bool := ckF (itemsF (stripF l) 0 false) 0

structure CkJ (fin : Bool) (rest : List (Nat × List Nat)) (m : Str → Option Value) (D : List (Addr × Obj)) : Prop where
  ex : ∃ n tn, D = [] ∧ m (Str.ofString "opens") = some (.int n tn) ∧ ckF rest n = fin

theorem r_callRef {w : World} {A : Around} {E : Value → Shared → Prop} {s₀ sr s : Shared} {L : Addr} {m : Str → Option Value} {D : List (Addr × Obj)} {W : List Addr} {prog : Program} {f : Addr} {vs : List Value} {Q : Value → Shared → Prop}
    {oc doc pm cdv : Value} {od : Option Addr} {osl : Array (Option Value)} {nm : Str} {params : Arguments} {body : List Stmt} {sc : Scope} (h : Loc w s₀ L m D W sr s)
    (ho : (KK w).lookup f = some ⟨oc, od, .func (docDef nm params body sc pm cdv doc), osl⟩) (g : wpAny (model prog w) A (call (.ref f) vs) Q E s) :
    (∃ o fd, s.heap.get? f = some o ∧ o.data = .func fd) ∧ wpAny (model prog w) A (call (.ref f) vs) Q E s := ⟨r_fn h ho, g⟩

set_option maxHeartbeats 4000000 in
theorem check_ok {w : World} {A : Around} {E : Value → Shared → Prop} {s : Shared} {x : Str} {t : Tok} {Q : Value → Shared → Prop} (B : Base w s) (R : Room A 3) (hx : x.length ≤ 2000)
    (g : ∀ s', Calm s s' → Q (.bool (checkF (tl x))) s') : wpAny (model Challenge.rw_pm0006_01.row.prog w) A (call (.ref 42) [.str x t]) Q E s := by
  refine enter (d := 2) (binds := [(Str.ofString "addr", .str x t)]) B (R.mono (by decide)) rfl (by kernel_rfl) rfl (locs rfl) fun L s1 h => ?_
  walk_at "pms"
  refine r_callRef (by assumption) rfl ?_
  rename Loc _ _ _ _ _ _ _ _ => h2
  refine strip_ok h2.toBase R.deeper hx fun y ty s3 hy hc => ?_
  have h3 := h2.calm hc
  walk_at "pms"
  refine wpAny_For ?_
  walk_at "pms"
  refine r_callRef (by assumption) rfl ?_
  have hRd : (A.deeper (envOf (Str.ofString "_check_parenthesis") (pmScope 5) L 42 (.ref 41))).depth < recursionLimit := R.deeper.depth
  refine r_mkgen (by assumption) R.1 hRd fun a gn C s2 h2 hG hCL hg0 => ?_
  refine wpAny_pyIter_gen hG.1 ?_
  refine gen_loop (J := CkJ (checkF (tl x))) [] R.1 hRd hCL hg0 ?_ ?_ ?_ ?_ ⟨0, _, rfl, rfl, by unfold checkF; rw [← hy]⟩ h2 hG
  · rintro rest m D ⟨n, tn, rfl, _⟩ p hp
    nomatch hp
  · rintro rest m D _ b hb
    nomatch hb
  · rintro p c rest m D T oT tk u z s4 ⟨n, tn, rfl, mop, hfin⟩ hT hz h4
    refine r_unpack2 h4 R.1 (.head _) hT fun s5 h5 => ?_
    walk_at "pms"
    rw [str_eq, show tl (Str.ofString "(") = [40] by decide, show tl z = c from hz]
    by_cases hc : c = [40]
    · rw [decide_eq_true hc, if_pos rfl]
      walk_at "pms"
      rename Loc _ _ _ _ _ _ _ _ => h7
      refine ⟨_, _, ⟨n + 1, _, rfl, by walk_at "lk", ?_⟩, h7.sub fun p hp => (nomatch hp)⟩
      rw [← hfin]
      simp [ckF, hc]
    · rw [decide_eq_false hc, if_neg Bool.false_ne_true]
      walk_at "pms"
      rw [str_eq, show tl (Str.ofString ")") = [41] by decide, show tl z = c from hz]
      by_cases hd : c = [41]
      · rw [decide_eq_true hd, if_pos rfl]
        walk_at "pms"
        by_cases hn : n - 1 < 0
        · rw [decide_eq_true hn, if_pos rfl]
          walk_at "pms"
          rename Loc _ _ _ _ _ _ _ _ => h7
          have e : checkF (tl x) = false := by rw [← hfin]; simp [ckF, hd, hn]
          rw [e] at g
          exact g _ h7.done
        · rw [decide_eq_false hn, if_neg Bool.false_ne_true]
          walk_at "pms"
          rename Loc _ _ _ _ _ _ _ _ => h7
          refine ⟨_, _, ⟨n - 1, _, rfl, by walk_at "lk", ?_⟩, h7.sub fun p hp => (nomatch hp)⟩
          rw [← hfin]
          simp [ckF, hd, hn]
      · rw [decide_eq_false hd, if_neg Bool.false_ne_true]
        walk_at "pms"
        rename Loc _ _ _ _ _ _ _ _ => h7
        refine ⟨_, _, ⟨n, _, rfl, by walk_at "lk", ?_⟩, h7.sub fun p hp => (nomatch hp)⟩
        rw [← hfin]
        simp [ckF, hc, hd]
  · rintro m D s3 ⟨n, tn, rfl, mop, hfin⟩ h3
    show wpAny _ _ (execs _ _) _ _ _
    walk_at "pms"
    rename Loc _ _ _ _ _ _ _ _ => h7
    have e : checkF (tl x) = (n == 0) := hfin.symm
    rw [e] at g
    exact g _ h7.done

def replL (y z l : List Nat) : List Nat := joinL z (splitL y 0 l)
def replsF : List (List Nat × List Nat) → List Nat → List Nat
  | [], l => l
  | (y, z) :: r, l => replsF r (replL y z l)
theorem splitL_len (y : List Nat) : ∀ (k : Nat) (l : List Nat), (splitL y k l).length ≤ l.length + 1 ∧ ∀ p ∈ splitL y k l, p.length ≤ l.length
  | k, [] => by cases k <;> simp [splitL]
  | k + 1, c :: l => by
    have ih := splitL_len y k l
    rw [show splitL y (k + 1) (c :: l) = splitL y k l by conv => lhs; unfold splitL]
    exact ⟨by simp only [List.length_cons]; omega, fun p hp => by have := ih.2 p hp; simp only [List.length_cons]; omega⟩
  | 0, c :: l => by
    by_cases h : (c :: l).take y.length = y
    · have ih := splitL_len y (y.length - 1) l
      rw [splitL_hit h]
      refine ⟨by simp only [List.length_cons]; omega, fun p hp => ?_⟩
      rcases List.mem_cons.mp hp with rfl | hp
      · simp
      · have := ih.2 p hp; simp only [List.length_cons]; omega
    · obtain ⟨p, r, e⟩ := splitL_ne y 0 l
      have ih := splitL_len y 0 l
      rw [splitL_miss h e]
      rw [e] at ih
      refine ⟨by have := ih.1; simp only [List.length_cons] at this ⊢; omega, fun q hq => ?_⟩
      rcases List.mem_cons.mp hq with rfl | hq
      · have := ih.2 p (.head _); simp only [List.length_cons]; omega
      · have := ih.2 q (.tail _ hq); simp only [List.length_cons]; omega
theorem joinL_cons (z a : List Nat) {p : List Nat} {r : List (List Nat)} : joinL z (a :: p :: r) = a ++ z ++ joinL z (p :: r) := rfl
theorem joinL_grow (z : List Nat) (c : Nat) (p : List Nat) (r : List (List Nat)) : joinL z ((c :: p) :: r) = c :: joinL z (p :: r) := by
  cases r with
  | nil => rfl
  | cons q r => simp [joinL]
theorem replL_len {y z : List Nat} (hz : z.length ≤ 1) : ∀ (k : Nat) (l : List Nat), (joinL z (splitL y k l)).length ≤ l.length
  | k, [] => by cases k <;> simp [splitL, joinL]
  | k + 1, c :: l => by
    have ih := replL_len hz (y := y) k l
    rw [show splitL y (k + 1) (c :: l) = splitL y k l by conv => lhs; unfold splitL]
    simp only [List.length_cons]; omega
  | 0, c :: l => by
    by_cases h : (c :: l).take y.length = y
    · have ih := replL_len hz (y := y) (y.length - 1) l
      rw [splitL_hit h]
      obtain ⟨p, r, e⟩ := splitL_ne y (y.length - 1) l
      rw [e] at ih ⊢
      rw [joinL_cons]
      simp only [List.length_append, List.length_nil, List.length_cons]; omega
    · have ih := replL_len hz (y := y) 0 l
      obtain ⟨p, r, e⟩ := splitL_ne y 0 l
      rw [splitL_miss h e, joinL_grow]
      rw [e] at ih
      simp only [List.length_cons]; omega

abbrev Pr := (Str × Tok) × (Str × Tok)
def flatP (ps : List Pr) : List Value := ps.flatMap fun p => [.str p.1.1 p.1.2, .str p.2.1 p.2.2]
theorem flatP_len : ∀ ps : List Pr, (flatP ps).length = 2 * ps.length
  | [] => rfl
  | p :: ps => by
    have := flatP_len ps
    simp only [flatP, List.flatMap_cons, List.length_append, List.length_cons, List.length_nil] at this ⊢
    omega
def Pr.l (p : Pr) : List Nat × List Nat := (tl p.1.1, tl p.2.1)

structure RpJ (fin : List Nat) (n : Nat) (ps : List Pr) (m : Str → Option Value) (D : List (Addr × Obj)) : Prop where
  ex : ∃ T o y ty, (T, o) ∈ D ∧ TupO o (flatP ps) ∧ m (Str.ofString "pairs") = some (.ref T) ∧ m (Str.ofString "text") = some (.str y ty) ∧ y.length ≤ 2000 ∧ replsF (ps.map Pr.l) (tl y) = fin

set_option maxHeartbeats 4000000 in
theorem replace_ok {w : World} {A : Around} {E : Value → Shared → Prop} {s : Shared} {x : Str} {t : Tok} {Q : Value → Shared → Prop} (ps : List Pr) (B : Base w s) (R : Room A 2) (hx : x.length ≤ 2000)
    (hp : ∀ p ∈ ps, 1 ≤ p.1.1.length ∧ Builtin.Str.strKind p.1.1 = 1 ∧ p.2.1.length ≤ 1) (hn : ps.length = 1 ∨ ps.length = 3)
    (g : ∀ y t' s', tl y = replsF (ps.map Pr.l) (tl x) → Calm s s' → Q (.str y t') s') : wpAny (model Challenge.rw_pm0006_01.row.prog w) A (call (.ref 21) (.str x t :: flatP ps)) Q E s := by
  have hlk : ∃ oc od osl pm doc prm, (KK w).lookup 21 = some ⟨oc, od, .func (docDef (Str.ofString "replace") prm (pmBody 1) (pmScope 1) pm (.ref 20) doc), osl⟩ ∧
      bindArgs (docDef (Str.ofString "replace") prm (pmBody 1) (pmScope 1) pm (.ref 20) doc) ⟨.str x t :: flatP ps, []⟩ = newTuple (flatP ps) >>= fun T => pure [(Str.ofString "text", .str x t), (Str.ofString "pairs", T)] := by
    refine ⟨_, _, _, _, _, _, rfl, ?_⟩
    match ps, hn with
    | [p], _ => rfl
    | [p, q, r], _ => rfl
  obtain ⟨oc, od, osl, pm, doc, prm, ho, hb⟩ := hlk
  refine wpAny_call (codeAny_call_function R.depth (B.k _ _ ho) rfl rfl rfl rfl (codeRec_of B.k (by kernel_rfl)) ?_)
  rw [hb]
  have hfl : (flatP ps).length ≤ 6 := by
    match ps, hn with
    | [p], _ => simp [flatP]
    | [p, q, r], _ => simp [flatP]
  refine wpAny_bind (wpAny_newObj_type (wpAny_pure ?_) (by show (flatP ps).toArray.size ≤ sizeLine; rw [List.size_toArray, sizeLine_eq]; omega))
  refine wpAny_newFunctionEnv (show ∀ x ∈ (pmScope 1).names, x.2 ≠ .cell by decide) (by
    intro p hp
    rcases List.mem_cons.mp hp with rfl | hp
    · rfl
    · rw [List.mem_singleton.mp hp]; rfl) fun h' hn' hs => ?_
  have k1 : ∀ b o, s.heap.get? b = some o → (s.heap.push { cls := .type "tuple", data := .seq (flatP ps).toArray }).get? b = some o := fun b o e => Heap.get?_push_of_some _ e
  have k2 : ∀ b o, (s.heap.push { cls := .type "tuple", data := .seq (flatP ps).toArray }).get? b = some o → h'.get? b = some o := fun b o e => (hs.2 b (Nat.ne_of_lt (Heap.lt_size e))).trans (Heap.get?_push_of_some _ e)
  refine ⟨B.nolimit.keeps fun b o e => k2 b o (k1 b o e), ?_⟩
  have hT := k2 _ _ (Heap.get?_push_size s.heap (o := { cls := .type "tuple", data := .seq (flatP ps).toArray }) rfl)
  have hle : s.heap.objs.size ≤ (s.heap.push { cls := .type "tuple", data := .seq (flatP ps).toArray }).objs.size := by simp [Heap.push]
  have h0 : Loc w s (s.heap.push { cls := .type "tuple", data := .seq (flatP ps).toArray }).objs.size _ [(s.heap.objs.size, { cls := .type "tuple", data := .seq (flatP ps).toArray })] [] { s with heap := h', toks := s.toks + 2 } { s with heap := h', toks := s.toks + 2 } :=
    ⟨B, ⟨hn', fun b o e => k2 b o (k1 b o e), hle⟩, fun p hp => by
      rw [List.mem_singleton.mp hp]
      exact ⟨hT, seq_ne hn' hT rfl⟩, rfl, fun _ _ e => e, id, fun _ _ _ _ e => e, fun _ _ e => e, rfl, id⟩
  generalize (s.heap.push { cls := .type "tuple", data := .seq (flatP ps).toArray }).objs.size = L at h0 ⊢
  generalize s.heap.objs.size = T at h0 ⊢
  have hto : TupO { cls := .type "tuple", data := .seq (flatP ps).toArray } (flatP ps) := ⟨rfl, 0, rfl⟩
  generalize ({ cls := .type "tuple", data := .seq (flatP ps).toArray } : Obj) = oT at h0 hto
  show codeAny _ _ (.func (pmBody 1) (envOf (Str.ofString "replace") (pmScope 1) L 21 (.ref 20))) _ { s with heap := h', toks := s.toks + 2 }
  generalize ({ s with heap := h', toks := s.toks + 2 } : Shared) = s2 at h0 ⊢
  refine codeAny_func (ff ?_)
  show wpAny _ _ (execs [.While _ _ _ _, .Return _ _] _) _ _ _
  walk_at "pms"
  refine wpAny_While ?_
  refine codeAny_whileLoop (fun k s' => ∃ (r : List Pr) (m : Str → Option Value) (D : List (Addr × Obj)), r.length = k ∧ ((∀ p ∈ r, p ∈ ps) ∧ r.length ≤ 3) ∧ RpJ (replsF (ps.map Pr.l) (tl x)) 0 r m D ∧ Loc w s L m D [] s2 s') ?_ ps.length
    ⟨ps, _, _, rfl, ⟨fun _ q => q, by omega⟩, ⟨T, oT, x, t, .head _, hto, rfl, rfl, hx, rfl⟩, h0⟩
  rintro k s' ⟨r, m, D, rfl, ⟨hr, hr3⟩, ⟨T', o', y, ty, hD, ho', mpa, mte, hy, hfin⟩, h1⟩
  have hsz : (flatP r).length ≤ sizeLine := by rw [flatP_len, sizeLine_eq]; omega
  walk_at "pms"
  refine r_truthy_tuple (by assumption) hD ho' hsz ?_
  intro s3 h3
  cases r with
  | nil =>
    rw [if_neg (by decide)]
    walk_at "pms"
    exact g _ _ _ hfin h3.done
  | cons p r =>
    rw [if_pos (by rfl)]
    walk_at "pms"
    obtain ⟨hw, hk, hz⟩ := hp p (hr p (.head _))
    have hlen : (flatP (p :: r)).length = (flatP r).length + 2 := by rw [flatP_len, flatP_len, List.length_cons]; omega
    refine r_tuple_item (x := .str p.2.1 p.2.2) (by assumption) hD ho' (by decide) (by decide) (StrLaws.seqIndex_nonneg (by decide) (by rw [hlen]; omega)) rfl ?_
    walk_at "pms"
    refine r_tuple_item (x := .str p.1.1 p.1.2) (by assumption) hD ho' (by decide) (by decide) (StrLaws.seqIndex_nonneg (by decide) (by rw [hlen]; omega)) rfl ?_
    walk_at "pms"
    show wpAny _ _ (call (.builtin "str.split") [.str _ _, .str _ _]) _ _ _
    refine r_split (by assumption) (by rw [beq_eq_false_iff_ne]; omega) (by rw [sizeLine_eq]; omega) fun rr orr ll s5 horr hll hne h5 => ?_
    walk_at "pms"
    show wpAny _ _ (call (.builtin "str.join") [.str _ _, .ref rr]) _ _ _
    have hsp := split_tl y p.1.1 hw hk
    have hsl := splitL_len (tl p.1.1) 0 (tl y)
    refine r_joinS (bs := splitL (tl p.1.1) 0 (tl y)) h5 (.head _) horr ⟨ll, rfl, by rw [← hsp, ← hll, List.map_map]; rfl⟩ hz (by have := hsl.1; rw [tl_len] at this; omega) (fun b hb => by have := hsl.2 b hb; rw [tl_len] at this; omega) fun z tz s6 hz' h6 => ?_
    walk_at "pms"
    refine r_tuple_from (k := 2) (h := by assumption) (hl := .tail _ hD) (ho := ho') (by decide) (by rw [hlen]; omega) hsz ?_
    intro q oq s8 hoq h8
    walk_at "pms"
    rename Loc _ _ _ _ _ _ _ _ => h9
    refine ⟨r.length, Nat.lt_succ_self _, r, _, _, rfl, ⟨fun a ha => hr a (.tail _ ha), by simp only [List.length_cons] at hr3; omega⟩, ⟨q, oq, z, tz, .head _, hoq, by walk_at "lk", by walk_at "lk", ?_, ?_⟩, h9⟩
    · have := replL_len (y := tl p.1.1) (z := tl p.2.1) (by rw [tl_len]; exact hz) 0 (tl y)
      rw [← hz', tl_len, tl_len] at this
      omega
    · rw [← hfin]
      show _ = replsF (p.l :: r.map Pr.l) (tl y)
      rw [hz']
      rfl

section
variable {w : World} {A : Around} {s₀ sr s s1 s' : Shared} {L : Addr} {m m' : Str → Option Value} {D D' : List (Addr × Obj)} {W : List Addr} {name : Str} {scope : Scope} {f : Addr} {cd : Value} {prog : Program}

theorem Loc.trans (h : Loc w s₀ L m D W sr s) (h' : Loc w s₀ L m' D' W s s') : Loc w s₀ L m' D' W sr s' :=
  ⟨h'.base, h'.fr, h'.led, h'.os, h'.gens, h'.bare, fun b o h1 h2 e => h'.chg b o h1 h2 (h.chg b o h1 h2 e), fun i x e => h'.sgens i x (h.sgens i x e), h'.sos.trans h.sos, fun b => h'.sbare (h.sbare b)⟩
/-- an iterator's step; its own things are new since sr -/
theorem Loc.step (h : Loc w s₀ L m D W sr s) {wr : List Addr} {h' : Heap} {k : Nat} (hk : ∀ b o, b ∉ wr → s.heap.get? b = some o → h'.get? b = some o) (hL : L ∉ wr)
    (hf : ∀ b ∈ wr, s₀.heap.get? b = none) (hr : ∀ b ∈ wr, sr.heap.get? b = none) (hD : ∀ p ∈ D, p.1 ∉ wr) : Loc w s₀ L m D W sr { s with heap := h', toks := k } :=
  ⟨h.base, ⟨h.fr.ns.at' fun o e => hk _ o hL e, fun b o e => hk b o (fun hb => by rw [hf b hb] at e; cases e) (h.fr.keep b o e), h.fr.above⟩,
    fun p hp => ⟨hk _ _ (hD p hp) (h.led p hp).1, (h.led p hp).2⟩, h.os, h.gens, h.bare, fun b o h1 h2 e => hk b o (fun hb => by rw [hr b hb] at e; cases e) (h.chg b o h1 h2 e), h.sgens, h.sos, h.sbare⟩

theorem off_wr {h : Heap} {wr : List Addr} (hfld : ∀ b ∈ wr, ∃ o vs, h.get? b = some o ∧ o.data = .fields vs) (hled : ∀ p ∈ D, h.get? p.1 = some p.2) (hD : ∀ p ∈ D, ∃ vs n, p.2.data = .seq vs n) : ∀ p ∈ D, p.1 ∉ wr := fun p hp hb => by
  obtain ⟨o, vs, ho, hd⟩ := hfld _ hb
  obtain ⟨us, n, hd'⟩ := hD p hp
  rw [hled p hp] at ho
  cases ho
  rw [hd] at hd'
  cases hd'

theorem walk_loopG {R : Result → Shared → Prop} {I : Addr} {fp wr : List Addr} {n : Nat} {P : Nat → Value → Prop} {St : Nat → Heap → Prop} {target : Expr} {body : List Stmt} (J : Nat → (Str → Option Value) → List (Addr × Obj) → Prop) (W : List Addr)
    (X : Walks prog w A I fp wr n P St) (hfld : ∀ i h, St i h → ∀ b ∈ wr, ∃ o vs, h.get? b = some o ∧ o.data = .fields vs) (hL : L ∉ fp) (hW : ∀ b ∈ fp, b ∉ W)
    (hs0 : ∀ b ∈ wr, s₀.heap.get? b = none) (hsr : ∀ b ∈ wr, sr.heap.get? b = none) (hJD : ∀ i m D, J i m D → ∀ p ∈ D, ∃ vs n, p.2.data = .seq vs n)
    (step : ∀ i v m D (s1 : Shared), i < n → P i v → J i m D → Loc w s₀ L m D W sr s1 →
      wpAny (model prog w) A (assign target (envOf name scope L f cd) v) (fun _ s2 => wpAny (model prog w) A (execs body (envOf name scope L f cd)) (fun fl s3 => match fl with
        | .next | .cont => ∃ m' D', J (i + 1) m' D' ∧ Loc w s₀ L m' D' W s1 s3
        | .brk => R (.ok .next) s3
        | .ret v => R (.ok (.ret v)) s3) FF s2) FF s1)
    (fin : ∀ m D s3, J n m D → Loc w s₀ L m D W sr s3 → R (.ok .next) s3)
    (hJ : J 0 m D) (h : Loc w s₀ L m D W sr s) (hst : St 0 s.heap) (ht : ∀ i v (s' : Shared) (Q' : Unit → Shared → Prop) (E' : Value → Shared → Prop), St i s'.heap → Q' () s' → wpAny (model prog w) A (letOwnedTupleGo target (.ref I) v) Q' E' s') :
    codeAny (model prog w) A (.forLoop target (.ref I) body [] (envOf name scope L f cd)) R s := by
  have hLw : L ∉ wr := fun q => hL (X.sub _ q)
  refine codeAny_forLoop_any (fun k s' => ∃ i m D, i ≤ n ∧ k = n - i ∧ J i m D ∧ Loc w s₀ L m D W sr s' ∧ St i s'.heap) ?_ n ⟨0, m, D, Nat.zero_le _, rfl, hJ, h, hst⟩
  rintro k s' ⟨i, m, D, hi, rfl, hJ, h, hst⟩
  have hoff := off_wr (hfld i _ hst) (fun p hp => (h.led p hp).1) (hJD _ _ _ hJ)
  by_cases hlt : i < n
  · refine X.item i _ _ _ hlt hst fun v h' tk hP hst' hk => ?_
    have h1 : Loc w s₀ L m D W sr { s' with heap := h', toks := tk } := h.step hk hLw hs0 hsr hoff
    refine ht (i + 1) v _ _ _ hst' (ff (wpAny_mono (step i v m D _ hlt hP hJ h1) (fun _ s2 h2 => ff (wpAny_mono h2 (fun fl s3 h3 => ?_) fun _ _ x => x)) fun _ _ x => x))
    have next : (∃ m' D', J (i + 1) m' D' ∧ Loc w s₀ L m' D' W { s' with heap := h', toks := tk } s3) → ∃ k', k' < n - i ∧ ∃ i m D, i ≤ n ∧ k' = n - i ∧ J i m D ∧ Loc w s₀ L m D W sr s3 ∧ St i s3.heap := by
      rintro ⟨m', D', hJ', h4⟩
      refine ⟨n - (i + 1), by omega, i + 1, m', D', hlt, rfl, hJ', h1.trans h4, X.frame _ _ _ hst' fun b hb o e => h4.chg b o (fun q => hL (q ▸ hb)) (hW b hb) e⟩
    cases fl with
    | next => exact next h3
    | cont => exact next h3
    | brk => exact h3
    | ret v => exact h3
  · have hin : i = n := by omega
    subst hin
    refine X.done _ _ _ hst fun h' tk hk => wpAny_execs_nil (fin m D _ hJ (h.step hk hLw hs0 hsr hoff))

theorem walk_loop {R : Result → Shared → Prop} {I : Addr} {fp wr : List Addr} {n : Nat} {P : Nat → Value → Prop} {St : Nat → Heap → Prop} {target : Expr} {body : List Stmt} (J : Nat → (Str → Option Value) → List (Addr × Obj) → Prop) (W : List Addr)
    (X : Walks prog w A I fp wr n P St) (hfld : ∀ i h, St i h → ∀ b ∈ wr, ∃ o vs, h.get? b = some o ∧ o.data = .fields vs) (hL : L ∉ fp) (hW : ∀ b ∈ fp, b ∉ W)
    (hs0 : ∀ b ∈ wr, s₀.heap.get? b = none) (hsr : ∀ b ∈ wr, sr.heap.get? b = none) (hJD : ∀ i m D, J i m D → ∀ p ∈ D, ∃ vs n, p.2.data = .seq vs n)
    (step : ∀ i v m D (s1 : Shared), i < n → P i v → J i m D → Loc w s₀ L m D W sr s1 →
      wpAny (model prog w) A (assign target (envOf name scope L f cd) v) (fun _ s2 => wpAny (model prog w) A (execs body (envOf name scope L f cd)) (fun fl s3 => match fl with
        | .next | .cont => ∃ m' D', J (i + 1) m' D' ∧ Loc w s₀ L m' D' W s1 s3
        | .brk => R (.ok .next) s3
        | .ret v => R (.ok (.ret v)) s3) FF s2) FF s1)
    (fin : ∀ m D s3, J n m D → Loc w s₀ L m D W sr s3 → R (.ok .next) s3)
    (hJ : J 0 m D) (h : Loc w s₀ L m D W sr s) (hst : St 0 s.heap) (ht : ∀ v, letOwnedTupleGo target (.ref I) v = pure ()) :
    codeAny (model prog w) A (.forLoop target (.ref I) body [] (envOf name scope L f cd)) R s :=
  walk_loopG J W X hfld hL hW hs0 hsr hJD step fin hJ h hst fun _ v _ _ _ _ hQ => wpAny_of_eq (ht v) hQ

theorem walk_loopT {R : Result → Shared → Prop} {I : Addr} {fp wr : List Addr} {n : Nat} {P : Nat → Array Value → Prop} {St : Nat → Heap → Prop} {Mid : Nat → Addr → Heap → Prop} {ts : List Expr} {ctx : Nat} {pos : Pos} {body : List Stmt} (J : Nat → (Str → Option Value) → List (Addr × Obj) → Prop) (W : List Addr)
    (X : WalksT prog w A I fp wr n P St Mid) (hfld : ∀ i h, St i h → ∀ b ∈ wr, ∃ o vs, h.get? b = some o ∧ o.data = .fields vs) (hL : L ∉ fp) (hW : ∀ b ∈ fp, b ∉ W)
    (hs0 : ∀ b ∈ wr, s₀.heap.get? b = none) (hsr : ∀ b ∈ wr, sr.heap.get? b = none) (hJD : ∀ i m D, J i m D → ∀ p ∈ D, ∃ vs n, p.2.data = .seq vs n)
    (step : ∀ i vals T o m D (s1 : Shared), i < n → P i vals → J i m D → TupO o vals.toList → Loc w s₀ L m ((T, o) :: D) W sr s1 →
      wpAny (model prog w) A (assign (.Tuple ts ctx pos) (envOf name scope L f cd) (.ref T)) (fun _ s2 => wpAny (model prog w) A (execs body (envOf name scope L f cd)) (fun fl s3 => match fl with
        | .next | .cont => ∃ m' D', J (i + 1) m' D' ∧ Loc w s₀ L m' D' W s1 s3
        | .brk => R (.ok .next) s3
        | .ret v => R (.ok (.ret v)) s3) FF s2) FF s1)
    (fin : ∀ m D s3, J n m D → Loc w s₀ L m D W sr s3 → R (.ok .next) s3)
    (hJ : J 0 m D) (h : Loc w s₀ L m D W sr s) (hst : St 0 s.heap) :
    codeAny (model prog w) A (.forLoop (.Tuple ts ctx pos) (.ref I) body [] (envOf name scope L f cd)) R s := by
  have hLw : L ∉ wr := fun q => hL (X.sub _ q)
  refine codeAny_forLoop_any (fun k s' => ∃ i m D, i ≤ n ∧ k = n - i ∧ J i m D ∧ Loc w s₀ L m D W sr s' ∧ St i s'.heap) ?_ n ⟨0, m, D, Nat.zero_le _, rfl, hJ, h, hst⟩
  rintro k s' ⟨i, m, D, hi, rfl, hJ, h, hst⟩
  have hoff := off_wr (hfld i _ hst) (fun p hp => (h.led p hp).1) (hJD _ _ _ hJ)
  by_cases hlt : i < n
  · refine X.item i _ _ _ hlt hst fun T vals h' tk hP hsz hT hM hk => ?_
    have h1 : Loc w s₀ L m D W sr { s' with heap := h', toks := tk } := h.step hk hLw hs0 hsr hoff
    refine X.go _ _ _ i T _ _ _ hM fun hp2 hst' hk2 => ?_
    have h2' : Loc w s₀ L m D W sr { s' with heap := hp2, toks := tk } := h1.step (k := tk) hk2 hLw hs0 hsr hoff
    obtain ⟨o, ho, hc, nn, hd⟩ := hT
    have hTw : T ∉ wr := X.apart _ _ _ hM
    have ho2 := hk2 _ _ hTw ho
    have h3 : Loc w s₀ L m ((T, o) :: D) W sr { s' with heap := hp2, toks := tk } := h2'.add ho2 (seq_ne h2'.fr.ns ho2 hd)
    refine ff (wpAny_mono (step i vals T o m D _ hlt hP hJ ⟨hc, nn, by simpa using hd⟩ h3) (fun _ s2 h5 => ff (wpAny_mono h5 (fun fl s3 h3 => ?_) fun _ _ x => x)) fun _ _ x => x)
    have next : (∃ m' D', J (i + 1) m' D' ∧ Loc w s₀ L m' D' W { s' with heap := hp2, toks := tk } s3) → ∃ k', k' < n - i ∧ ∃ i m D, i ≤ n ∧ k' = n - i ∧ J i m D ∧ Loc w s₀ L m D W sr s3 ∧ St i s3.heap := by
      rintro ⟨m', D', hJ', h4⟩
      refine ⟨n - (i + 1), by omega, i + 1, m', D', hlt, rfl, hJ', h2'.trans h4, X.frame _ _ _ hst' fun b hb o e => h4.chg b o (fun q => hL (q ▸ hb)) (hW b hb) e⟩
    cases fl with
    | next => exact next h3
    | cont => exact next h3
    | brk => exact h3
    | ret v => exact h3
  · have hin : i = n := by omega
    subst hin
    refine X.done _ _ _ hst fun h' tk hk => wpAny_execs_nil (fin m D _ hJ (h.step hk hLw hs0 hsr hoff))
end

def CompTail (prog : Program) (w : World) (A : Around) (env : Env) (scope : Scope) (elt : Expr) (x : Str) (px : Pos) (iter : Expr) (ifs : List Expr) (pos : Pos) (R : Value → Addr → Result → Shared → Prop) (E : Value → Shared → Prop) (it : Value) (s₂ : Shared) : Prop :=
  wpAny (model prog w) A (newList []) (fun acc s₃ => wpAny (model prog w) A (newFunctionEnv scope env.globals [] [] env.qual none .none (some env)) (fun cenv s₄ =>
    codeAny (model prog w) A (.compStart (.ListComp elt [⟨.Name x px, iter, ifs, 0⟩] scope pos) 0 it acc { cenv with scope := relabel scope env }) (R acc cenv.locals) s₄) E s₃) E s₂

section
variable {w : World} {A : Around} {prog : Program} {env : Env} {scope : Scope} {elt iter : Expr} {x : Str} {px pos : Pos} {ifs : List Expr} {E : Value → Shared → Prop} {s : Shared}

theorem r_ListComp {Q : Value → Shared → Prop} (h : wpAny (model prog w) A (eval iter env) (fun v s₁ => wpAny (model prog w) A (pyIter v) (fun it s₂ => CompTail prog w A env scope elt x px iter ifs pos (compPost (model prog w) A E none Q) E it s₂) E s₁) E s)
    (hfree : ∀ z ∈ scope.names, z.2 ≠ .free := by decide) (hkind : scope.kind = .function := by rfl) (hnames : ∀ z ∈ scope.names, z.2 = .local → scope.names.lookup z.1 = some .local := by decide) (hs : ∀ x, foldedSetIterable iter env x = pure x := by intro _; rfl) :
    wpAny (model prog w) A (eval (.ListComp elt [⟨.Name x px, iter, ifs, 0⟩] scope pos) env) Q E s := by
  rw [eval_ListComp]
  exact wpAny_comprehension_free (use := none) rfl hs (closureFor_none hfree) hkind hnames h
theorem r_AssignComp {Q : Flow → Shared → Prop} {y : Str} {py spos : Pos} (h : wpAny (model prog w) A (eval iter env) (fun v s₁ => wpAny (model prog w) A (pyIter v) (fun it s₂ => CompTail prog w A env scope elt x px iter ifs pos (compPost (model prog w) A E (some (assign (.Name y py) env)) (fun _ s' => Q .next s')) E it s₂) E s₁) E s)
    (hsw : swapsWith (.ListComp elt [⟨.Name x px, iter, ifs, 0⟩] scope pos) (some (.Name y py)) spos.line env = pure true := by rfl)
    (hfree : ∀ z ∈ scope.names, z.2 ≠ .free := by decide) (hkind : scope.kind = .function := by rfl) (hnames : ∀ z ∈ scope.names, z.2 = .local → scope.names.lookup z.1 = some .local := by decide) (hs : ∀ x, foldedSetIterable iter env x = pure x := by intro _; rfl) :
    wpAny (model prog w) A (exec (.Assign [.Name y py] (.ListComp elt [⟨.Name x px, iter, ifs, 0⟩] scope pos) spos) env) Q E s := by
  rw [exec_Assign_Name_used _ _ _ _ hsw]
  refine wpAny_bind (wpAny_standAt (wpAny_bind ?_))
  show wpAny _ A (do let _ ← comprehension (.ListComp elt [⟨.Name x px, iter, ifs, 0⟩] scope pos) scope env _ (newList []) false (eval iter env) (some (assign (.Name y py) env))) _ _ s
  exact wpAny_bind (wpAny_mono (wpAny_comprehension_free (use := some (assign (.Name y py) env)) (Q := fun _ s' => Q .next s') rfl hs (closureFor_none hfree) hkind hnames h) (fun _ s' hq => wpAny_pure (wpAny_pure hq)) fun _ _ e => e)

theorem comp_block {I : Addr} {fp wr : List Addr} {n : Nat} {P : Nat → Value → Prop} {St : Nat → Heap → Prop} {R : Value → Addr → Result → Shared → Prop} (J : Nat → List Value → Prop) {s₂ : Shared}
    (X : Walks prog w A I fp wr n P St) (hfld : ∀ i h, St i h → ∀ b ∈ wr, ∃ o vs, h.get? b = some o ∧ o.data = .fields vs) (hlt : ∀ b ∈ fp, b < s₂.heap.objs.size) (hs0 : ∀ b ∈ wr, s.heap.get? b = none)
    (B : Base w s) (hc : Calm s s₂) (hle : s.heap.objs.size ≤ s₂.heap.objs.size) (hst : St 0 s₂.heap)
    (step : ∀ i v m o vs C acc (s1 : Shared), i < n → P i v → J i vs → LstO o vs → m x = some v → Loc w s C m [(acc, o)] [acc] s1 s1 →
      wpAny (model prog w) A (forIn ifs true fun c r => if r = true then do let ok ← isTrue c (compEnvC scope [] C env) (eval c (compEnvC scope [] C env)); pure (ForInStep.yield ok) else pure (ForInStep.yield r))
        (fun ok s3 => if ok = true then wpAny (model prog w) A (eval elt (compEnvC scope [] C env)) (fun y s4 => J (i + 1) (vs ++ [y]) ∧ Loc w s C m [(acc, o)] [acc] s1 s4) FF s3
          else J (i + 1) vs ∧ Loc w s C m [(acc, o)] [acc] s1 s3) FF s1)
    (hsz : ∀ i vs, J i vs → vs.length ≤ sizeLine)
    (fin : ∀ acc o vs C m s', J n vs → LstO o vs → s.heap.get? acc = none → Loc w s C m [(acc, o)] [acc] s' s' → R (.ref acc) C (.ok .next) s') (hJ : J 0 [])
    (hx : scope.names.lookup x = some .local := by rfl) (hcell : ∀ z ∈ scope.names, z.2 ≠ .cell := by decide) (hkind : scope.kind = .function := by rfl) :
    CompTail prog w A env scope elt x px iter ifs pos R E (.ref I) s₂ := by
  unfold CompTail
  have B2 := B.calm hc
  refine wpAny_newObj_type (wpAny_newFunctionEnv hcell (fun _ h => nomatch h) (fun h' hn hs => ?_) hkind) (by size_fits)
  have k1 : ∀ b o, s₂.heap.get? b = some o → (s₂.heap.push { cls := .type "list", data := .seq #[] }).get? b = some o := fun b o e => Heap.get?_push_of_some _ e
  have k2 : ∀ b o, (s₂.heap.push { cls := .type "list", data := .seq #[] }).get? b = some o → h'.get? b = some o := fun b o e => (hs.2 b (Nat.ne_of_lt (Heap.lt_size e))).trans (Heap.get?_push_of_some _ e)
  have ha := k2 _ _ (Heap.get?_push_size s₂.heap (o := { cls := .type "list", data := .seq #[] }) rfl)
  have hsz2 : (s₂.heap.push { cls := .type "list", data := .seq #[] }).objs.size = s₂.heap.objs.size + 1 := by simp [Heap.push]
  have hacc0 : s.heap.get? s₂.heap.objs.size = none := by
    cases q : s.heap.get? s₂.heap.objs.size with
    | none => rfl
    | some o => exact absurd (Heap.lt_size (hc.keep _ _ q)) (Nat.lt_irrefl _)
  have h0 : Loc w s (s₂.heap.push { cls := .type "list", data := .seq #[] }).objs.size _ [(s₂.heap.objs.size, { cls := .type "list", data := .seq #[] })] [s₂.heap.objs.size] { s₂ with heap := h' } { s₂ with heap := h' } :=
    ⟨B, ⟨hn, fun b o e => k2 b o (k1 b o (hc.keep b o e)), Nat.le_trans hle (Nat.le_trans (Nat.le_succ _) (Nat.le_of_eq hsz2.symm))⟩, fun p hp => by
      rw [List.mem_singleton.mp hp]
      exact ⟨ha, seq_ne hn ha rfl⟩, hc.os, hc.gens, hc.bare, fun _ _ _ _ e => e, fun _ _ e => e, rfl, id⟩
  have hst' : St 0 h' := X.frame _ _ _ hst fun b _ o e => k2 b o (k1 b o e)
  have hCfp : (s₂.heap.push { cls := .type "list", data := .seq #[] }).objs.size ∉ fp := fun q => absurd (hlt _ q) (Nat.not_lt_of_le (by rw [hsz2]; exact Nat.le_succ _))
  have hafp : ∀ b ∈ fp, b ∉ [s₂.heap.objs.size] := fun b hb q => absurd (hlt b hb) (by rw [List.mem_singleton.mp q]; exact Nat.lt_irrefl _)
  have hlo : LstO { cls := .type "list", data := .seq #[] } [] := ⟨0, rfl⟩
  show codeAny _ _ (.compStart _ 0 (.ref I) (.ref s₂.heap.objs.size) (compEnvC scope [] (s₂.heap.push { cls := .type "list", data := .seq #[] }).objs.size env)) (R (.ref s₂.heap.objs.size) (s₂.heap.push { cls := .type "list", data := .seq #[] }).objs.size) _
  generalize (s₂.heap.push { cls := .type "list", data := .seq #[] }).objs.size = C at h0 hCfp ⊢
  generalize s₂.heap.objs.size = acc at h0 hafp hacc0 ⊢
  generalize ({ cls := .type "list", data := .seq #[] } : Obj) = oa at h0 hlo
  have h1 := h0.tk (s₂.toks + 0)
  refine codeAny_compStart_list ?_ (X.self 0 _ _ _ hst' ?_)
  all_goals
    have hCw : C ∉ wr := fun q => hCfp (X.sub _ q)
    refine codeAny_compLoop_tests (fun k s' => ∃ i m o vs, i ≤ n ∧ k = n - i ∧ J i vs ∧ LstO o vs ∧ Loc w s C m [(acc, o)] [acc] s' s' ∧ St i s'.heap) ?_ n ⟨0, _, oa, [], Nat.zero_le _, rfl, hJ, hlo, h0, hst'⟩
    rintro k s' ⟨i, m, o, vs, hi, rfl, hJ, ho, h, hst⟩
    have hseq : ∀ p ∈ [(acc, o)], ∃ vs n, p.2.data = .seq vs n := fun p hp => by
      rw [List.mem_singleton.mp hp]
      exact ho.weak.data.elim fun n e => ⟨_, n, e⟩
    have hoff := off_wr (hfld i _ hst) (fun p hp => (h.led p hp).1) hseq
    by_cases hlt' : i < n
    · refine X.item i _ _ _ hlt' hst fun v h' tk hP hst' hk => ?_
      have h2 : Loc w s C m [(acc, o)] [acc] { s' with heap := h', toks := tk } { s' with heap := h', toks := tk } := h.iter hk hCw hs0 hoff rfl h.gens id
      show wpAny _ A (assign (.Name x px) (compEnvC scope [] C env) v) _ _ _
      refine wpAny_assign_Name (wpAny_storeName_local (lookup_relabel_local hx) h2.fr.ns (fun h3 hn3 hs3 => ?_) (by show (scope.kind == .class || (scope.kind == .module && _)) = false; rw [hkind]; rfl))
      have h4 := (h2.set (k := tk + 1) hn3 hs3).snap [acc]
      have hst3 : St (i + 1) h3 := X.frame _ _ _ hst' fun b hb o e => (hs3.2 b (fun q => hCfp (show C ∈ fp from (show b = C from q) ▸ hb))).trans e
      refine ff (wpAny_mono (step i v _ o vs C acc _ hlt' hP hJ ho (upd_same _ _ _) h4) (fun ok s5 h5 => ?_) fun _ _ x => x)
      have next : ∀ {o' vs' s6}, J (i + 1) vs' → LstO o' vs' → Loc w s C (upd m x v) [(acc, o')] [acc] { s' with heap := h3, toks := tk + 1 } s6 →
          ∃ k', k' < n - i ∧ ∃ i m o vs, i ≤ n ∧ k' = n - i ∧ J i vs ∧ LstO o vs ∧ Loc w s C m [(acc, o)] [acc] s6 s6 ∧ St i s6.heap := fun {o' vs' s6} hJ' ho' h6 =>
        ⟨n - (i + 1), by omega, i + 1, _, o', vs', hlt', rfl, hJ', ho', h6.snap _, X.frame _ _ _ hst3 fun b hb o e => h6.chg b o (fun q => hCfp (q ▸ hb)) (hafp b hb) e⟩
      cases ok with
      | false =>
        obtain ⟨hJ', h6⟩ := h5
        exact next hJ' ho h6
      | true =>
        refine ff (wpAny_mono h5 (fun y s6 h6 => ?_) fun _ _ x => x)
        obtain ⟨hJ', h6⟩ := h6
        exact r_append (D := []) h6 ho (.head _) hacc0 (fun p hp => nomatch hp) (hsz i vs hJ) fun o' s7 ho' h7 => next hJ' ho' h7
    · have hin : i = n := by omega
      subst hin
      refine X.done _ _ _ hst fun h' tk hk => ?_
      exact fin acc o vs C m _ hJ ho hacc0 (h.iter (s' := { s' with heap := h', toks := tk }) hk hCw hs0 hoff rfl h.gens id)
end

def swp (c : Nat) : Nat := if c = 40 then 41 else if c = 41 then 40 else c

theorem get_new (h : Heap) : h.get? h.objs.size = none := by
  cases q : h.get? h.objs.size with
  | none => rfl
  | some o => exact absurd (Heap.lt_size q) (Nat.lt_irrefl _)
theorem walks_str {prog : Program} {w : World} {A : Around} (hh : A.handled = none) (I : Addr) (x : Str) (t : Tok) :
    Walks prog w A I [I] [I] x.cps.size (SignAt x) (fun i h => h.IsStrIter I (strIterType x) x t i) := by
  unfold strIterType
  split
  · exact Walks.strAscii hh I x t
  · exact Walks.strWide hh I x t
theorem tl_get {x : Str} {i : Nat} {v : Value} (h : SignAt x i v) : ∃ c u, v = .str ⟨#[c]⟩ u ∧ (tl x).take (i + 1) = (tl x).take i ++ [c] := by
  obtain ⟨c, u, hc, rfl⟩ := h
  refine ⟨c, u, rfl, ?_⟩
  rw [List.take_add_one]
  have : (tl x)[i]? = some c := by rw [← hc]; simp [tl]
  rw [this]
  rfl

set_option maxHeartbeats 4000000 in
theorem turned_ok {w : World} {A : Around} {E : Value → Shared → Prop} {s : Shared} {x : Str} {t : Tok} {Q : Value → Shared → Prop} (B : Base w s) (R : Room A 2) (hx : x.length ≤ 2000)
    (g : ∀ y t' s', tl y = (tl x).map swp → Calm s s' → Q (.str y t') s') : wpAny (model Challenge.rw_pm0006_01.row.prog w) A (call (.ref 54) [.str x t]) Q E s := by
  refine enter (d := 1) (binds := [(Str.ofString "box", .str x t)]) B (R.mono (by decide)) rfl (by kernel_rfl) rfl (locs rfl) fun L s1 h => ?_
  have hl := tl_len x
  walk_at "pms"
  refine r_ListComp ?_
  walk_at "pms"
  rename Loc _ _ _ _ _ _ _ _ => h2
  rename Shared => s2
  have hc : Calm s2 { s2 with heap := s2.heap.push { cls := .type (strIterType x), data := .fields #[.str x t, .int 0 0] } } := calm_heap (k := s2.toks) fun b o e => Heap.get?_push_of_some _ e
  have hlt : s2.heap.objs.size < (s2.heap.push { cls := .type (strIterType x), data := .fields #[.str x t, .int 0 0] }).objs.size := by simp [Heap.push]
  refine wpAny_pyIter_strU ?_
  refine comp_block (s := s2) (fun i vs => vs.length ≤ i ∧ i ≤ x.cps.size ∧ Strs vs (((tl x).take i).map fun c => [swp c])) (walks_str (by exact R.1) s2.heap.objs.size x t) ?_ ?_ ?_ h2.toBase hc (Nat.le_of_lt hlt) ⟨_, Heap.get?_push_size _ rfl, rfl, rfl⟩ ?_ ?_ ?_ ⟨Nat.le_refl _, Nat.zero_le _, Strs.nil⟩
  · rintro i h ⟨o, ho, _, hd⟩ b hb
    rw [List.mem_singleton.mp hb]
    exact ⟨o, _, ho, hd⟩
  · intro b hb
    rw [List.mem_singleton.mp hb]
    exact hlt
  · intro b hb
    rw [List.mem_singleton.mp hb]
    exact get_new _
  · rintro i v m o vs C acc s3 hi hP ⟨hle, hix, hvs⟩ ho hm h3
    obtain ⟨c, u, rfl, htk⟩ := tl_get hP
    refine wpAny_tests_nil ?_
    rw [if_pos rfl]
    walk_at "pms"
    have close : ∀ y ty s5, tl y = [swp c] → Loc w s2 C m [(acc, o)] [acc] s3 s5 → ((vs ++ [Value.str y ty]).length ≤ i + 1 ∧ i + 1 ≤ x.cps.size ∧ Strs (vs ++ [.str y ty]) (((tl x).take (i + 1)).map fun c => [swp c])) ∧ Loc w s2 C m [(acc, o)] [acc] s3 s5 := fun y ty s5 hy h5 => by
      refine ⟨⟨by simp; omega, hi, ?_⟩, h5⟩
      rw [htk, List.map_append, List.map_singleton, ← hy]
      exact hvs.snoc _ _
    rw [str_eq, show tl (Str.ofString "(") = [40] by decide, show tl ⟨#[c]⟩ = [c] from rfl]
    by_cases h40 : c = 40
    · rw [h40, decide_eq_true rfl, if_pos rfl]
      walk_at "pms"
      refine close _ _ _ ?_ (by assumption)
      rw [h40]; decide
    · rw [decide_eq_false (by simpa using h40), if_neg Bool.false_ne_true]
      walk_at "pms"
      rw [str_eq, show tl (Str.ofString ")") = [41] by decide, show tl ⟨#[c]⟩ = [c] from rfl]
      by_cases h41 : c = 41
      · rw [h41, decide_eq_true rfl, if_pos rfl]
        walk_at "pms"
        refine close _ _ _ ?_ (by assumption)
        rw [h41]; decide
      · rw [decide_eq_false (by simpa using h41), if_neg Bool.false_ne_true]
        walk_at "pms"
        refine close _ _ _ ?_ (by assumption)
        simp [swp, h40, h41, tl]
  · rintro i vs ⟨hle, hix, _⟩
    rw [sizeLine_eq]
    have : x.cps.size = x.length := rfl
    omega
  · rintro acc o vs C m s3 ⟨_, _, hvs⟩ ho hacc h3
    refine ⟨_, h3.fr.ns, fun h' hs => ?_⟩
    have hC2 : Calm s2 { s3 with heap := h' } := ⟨fun b o e => (hs.2 b (Nat.ne_of_lt (Nat.lt_of_lt_of_le (Heap.lt_size e) h3.fr.above))).trans (h3.fr.keep b o e), h3.os, h3.gens, h3.bare⟩
    have hget : h'.get? acc = some o := (hs.2 acc (h3.led _ (.head _)).2).trans (h3.get (.head _))
    have h4 := (h2.calm hC2).add (b := acc) (o := o) hget (ho.weak.data.elim fun n e => seq_ne (h2.calm hC2).fr.ns hget e)
    walk_at "pms"
    show wpAny _ _ (call (.builtin "str.join") [.str _ _, .ref acc]) _ _ _
    refine r_joinS h4 (.head _) ho.weak hvs (by decide) (by have hxs : x.cps.size = x.length := rfl; simp; omega) ?_ fun y ty s5 hy h5 => g _ _ _ ?_ h5.done
    · intro b hb
      obtain ⟨c, _, rfl⟩ := List.mem_map.mp hb
      simp
    · rw [hy, show tl (Str.ofString "") = [] by decide, joinL_nil, List.take_of_length_le (by rw [hl]; exact Nat.le_refl _)]
      clear hvs hy
      generalize tl x = l
      induction l with
      | nil => rfl
      | cons c l ih => simp [ih]

section
variable {w : World} {A : Around} {E : Value → Shared → Prop} {s₀ sr s : Shared} {L : Addr} {m : Str → Option Value} {D : List (Addr × Obj)} {W : List Addr} {name : Str} {scope : Scope} {a : Addr} {cd : Value} {prog : Program}

theorem r_unpack3 {T : Addr} {o : Obj} {v1 v2 v3 : Value} {x1 x2 x3 : Str} {p1 p2 p3 pos : Pos} {k : Nat} {Q : Unit → Shared → Prop} (h : Loc w s₀ L m D W sr s) (hh : A.handled = none) (hT : (T, o) ∈ D) (ho : TupO o [v1, v2, v3])
    (g : ∀ s', Loc w s₀ L (upd (upd (upd m x1 v1) x2 v2) x3 v3) D W sr s' → Q () s') (hk : scope.kind = .function := by rfl) (hl1 : (envOf name scope L a cd).kindOf x1 = some .local := by rfl) (hl2 : (envOf name scope L a cd).kindOf x2 = some .local := by rfl) (hl3 : (envOf name scope L a cd).kindOf x3 = some .local := by rfl) :
    wpAny (model prog w) A (assign (.Tuple [.Name x1 p1, .Name x2 p2, .Name x3 p3] k pos) (envOf name scope L a cd) (.ref T)) Q E s := by
  refine wpAny_assign_Tuple hh (ho.is (h.get hT)) rfl rfl fun h₃ hx₃ => ?_
  have h3 := h.calm (calm_heap (k := s.toks) fun b o e => hx₃ b o (Nat.ne_of_lt (Heap.lt_size e)) e)
  show wpAny _ A (do holding [v2, v3] (assign (.Name x1 p1) (envOf name scope L a cd) v1); do holding [v3] (assign (.Name x2 p2) (envOf name scope L a cd) v2); do holding [] (assign (.Name x3 p3) (envOf name scope L a cd) v3); pure ()) _ _ _
  refine wpAny_bind (wpAny_holding (wpAny_assign_Name (r_store h3 (fun s4 h4 => ?_) hk hl1)))
  refine wpAny_bind (wpAny_holding (wpAny_assign_Name (r_store h4 (fun s5 h5 => ?_) hk hl2)))
  refine wpAny_bind (wpAny_holding (wpAny_assign_Name (r_store h5 (fun s6 h6 => wpAny_pure (g s6 h6)) hk hl3)))
theorem r_unpack5 {T : Addr} {o : Obj} {v1 v2 v3 v4 v5 : Value} {x1 x2 x3 x4 x5 : Str} {p1 p2 p3 p4 p5 pos : Pos} {k : Nat} {Q : Unit → Shared → Prop} (h : Loc w s₀ L m D W sr s) (hh : A.handled = none) (hT : (T, o) ∈ D) (ho : TupO o [v1, v2, v3, v4, v5])
    (g : ∀ s', Loc w s₀ L (upd (upd (upd (upd (upd m x1 v1) x2 v2) x3 v3) x4 v4) x5 v5) D W sr s' → Q () s') (hk : scope.kind = .function := by rfl) (hl1 : (envOf name scope L a cd).kindOf x1 = some .local := by rfl) (hl2 : (envOf name scope L a cd).kindOf x2 = some .local := by rfl) (hl3 : (envOf name scope L a cd).kindOf x3 = some .local := by rfl)
    (hl4 : (envOf name scope L a cd).kindOf x4 = some .local := by rfl) (hl5 : (envOf name scope L a cd).kindOf x5 = some .local := by rfl) :
    wpAny (model prog w) A (assign (.Tuple [.Name x1 p1, .Name x2 p2, .Name x3 p3, .Name x4 p4, .Name x5 p5] k pos) (envOf name scope L a cd) (.ref T)) Q E s := by
  refine wpAny_assign_Tuple hh (ho.is (h.get hT)) rfl rfl fun h₃ hx₃ => ?_
  have h3 := h.calm (calm_heap (k := s.toks) fun b o e => hx₃ b o (Nat.ne_of_lt (Heap.lt_size e)) e)
  show wpAny _ A (do holding [v2, v3, v4, v5] (assign (.Name x1 p1) (envOf name scope L a cd) v1); do holding [v3, v4, v5] (assign (.Name x2 p2) (envOf name scope L a cd) v2); do holding [v4, v5] (assign (.Name x3 p3) (envOf name scope L a cd) v3); do holding [v5] (assign (.Name x4 p4) (envOf name scope L a cd) v4); do holding [] (assign (.Name x5 p5) (envOf name scope L a cd) v5); pure ()) _ _ _
  refine wpAny_bind (wpAny_holding (wpAny_assign_Name (r_store h3 (fun s4 h4 => ?_) hk hl1)))
  refine wpAny_bind (wpAny_holding (wpAny_assign_Name (r_store h4 (fun s5 h5 => ?_) hk hl2)))
  refine wpAny_bind (wpAny_holding (wpAny_assign_Name (r_store h5 (fun s6 h6 => ?_) hk hl3)))
  refine wpAny_bind (wpAny_holding (wpAny_assign_Name (r_store h6 (fun s7 h7 => ?_) hk hl4)))
  refine wpAny_bind (wpAny_holding (wpAny_assign_Name (r_store h7 (fun s8 h8 => wpAny_pure (g s8 h8)) hk hl5)))
/-- two names at once, the last first -/
theorem r_swapped2 {T : Addr} {o : Obj} {v1 v2 : Value} {x1 x2 : Str} {Q : Unit → Shared → Prop} (h : Loc w s₀ L m D W sr s) (hh : A.handled = none) (hT : (T, o) ∈ D) (ho : TupO o [v1, v2])
    (g : ∀ s', Loc w s₀ L (upd (upd m x2 v2) x1 v1) D W sr s' → Q () s') (hk : scope.kind = .function := by rfl) (hl1 : (envOf name scope L a cd).kindOf x1 = some .local := by rfl) (hl2 : (envOf name scope L a cd).kindOf x2 = some .local := by rfl) :
    wpAny (model prog w) A (unpackItems (.ref T) [x1, x2].length none) (fun items s₂ => wpAny (model prog w) A (assignInOrder ([x1, x2].reverse.map fun n => bindName (envOf name scope L a cd) n) items.reverse) Q E s₂) E s := by
  refine unpackItems_tuple (items := [v1, v2].toArray) hh (ho.is (h.get hT)) fun h₃ hx₃ => ?_
  have h3 := h.calm (calm_heap (k := s.toks) fun b o e => hx₃ b o (Nat.ne_of_lt (Heap.lt_size e)) e)
  show wpAny _ A (do holding [v1] (bindName (envOf name scope L a cd) x2 v2); do holding [] (bindName (envOf name scope L a cd) x1 v1); pure ()) _ _ _
  refine wpAny_bind (wpAny_holding (wpAny_bindName (r_store h3 (fun s4 h4 => ?_) hk hl2)))
  refine wpAny_bind (wpAny_holding (wpAny_bindName (r_store h4 (fun s5 h5 => wpAny_pure (g s5 h5)) hk hl1)))
theorem Loc.newsr (h : Loc w s₀ L m D W sr s) (hW : ∀ b ∈ W, b < s.heap.objs.size) {b : Addr} (hb : s.heap.objs.size ≤ b) : sr.heap.get? b = none := by
  cases q : sr.heap.get? b with
  | none => rfl
  | some o => exact absurd (Heap.lt_size (h.chg b o (fun e => absurd h.ltL (Nat.not_lt_of_le (e ▸ hb))) (fun e => absurd (hW b e) (Nat.not_lt_of_le hb)) q)) (Nat.not_lt_of_le hb)
theorem Loc.new0 (h : Loc w s₀ L m D W sr s) {b : Addr} (hb : s.heap.objs.size ≤ b) : s₀.heap.get? b = none := by
  cases q : s₀.heap.get? b with
  | none => rfl
  | some o => exact absurd (Heap.lt_size (h.fr.keep b o q)) (Nat.not_lt_of_le hb)
/-- an item of a tuple, a list, a text: facts about the first sign -/
theorem item0 {x : Str} (h : 1 ≤ x.length) : tl (Txt.item x 0) = [(tl x).headD 0] := by
  unfold Txt.item Txt.charAt
  rw [StrLaws.seqIndex_nonneg (by decide) (by omega)]
  have : x.cps.toList ≠ [] := by
    intro q
    have h1 : (tl x).length = 0 := by rw [show tl x = [] from q]; rfl
    rw [tl_len] at h1
    omega
  show [((x.cps[0]?).getD 0)] = _
  rw [← Array.getElem?_toList]
  show _ = [x.cps.toList.headD 0]
  cases hx : x.cps.toList with
  | nil => exact absurd hx this
  | cons c l => rfl
end

/-- a tuple of two numbers -/
def PairO (o : Obj) (p : Nat × Nat) : Prop := ∃ t u, TupO o [.int (p.1 : Nat) t, .int (p.2 : Nat) u]
/-- these values are such tuples, all in the ledger -/
def Prs (Ts : List (Addr × Obj)) (vs : List Value) (ps : List (Nat × Nat)) : Prop :=
  ∃ as : List (Addr × Obj × (Nat × Nat)), vs = as.map (fun a => .ref a.1) ∧ ps = as.map (fun a => a.2.2) ∧ ∀ a ∈ as, (a.1, a.2.1) ∈ Ts ∧ PairO a.2.1 a.2.2
theorem Prs.nil {Ts : List (Addr × Obj)} : Prs Ts [] [] := ⟨[], rfl, rfl, fun _ h => nomatch h⟩
theorem Prs.mono {Ts Ts' : List (Addr × Obj)} {vs : List Value} {ps : List (Nat × Nat)} (h : Prs Ts vs ps) (hs : ∀ p ∈ Ts, p ∈ Ts') : Prs Ts' vs ps :=
  let ⟨as, e1, e2, e3⟩ := h; ⟨as, e1, e2, fun a ha => ⟨hs _ (e3 a ha).1, (e3 a ha).2⟩⟩
theorem Prs.snoc {Ts : List (Addr × Obj)} {vs : List Value} {ps : List (Nat × Nat)} {T : Addr} {o : Obj} {p : Nat × Nat} (h : Prs Ts vs ps) (ho : PairO o p) : Prs ((T, o) :: Ts) (vs ++ [.ref T]) (ps ++ [p]) := by
  obtain ⟨as, e1, e2, e3⟩ := h
  refine ⟨as ++ [(T, o, p)], by simp [e1], by simp [e2], fun a ha => ?_⟩
  rcases List.mem_append.mp ha with ha | ha
  · exact ⟨.tail _ (e3 a ha).1, (e3 a ha).2⟩
  · rw [List.mem_singleton.mp ha]
    exact ⟨.head _, ho⟩
theorem Prs.len {Ts : List (Addr × Obj)} {vs : List Value} {ps : List (Nat × Nat)} (h : Prs Ts vs ps) : vs.length = ps.length := by
  obtain ⟨as, e1, e2, e3⟩ := h
  simp [e1, e2]
theorem PairO.seq {o : Obj} {p : Nat × Nat} (h : PairO o p) : ∃ vs n, o.data = .seq vs n := let ⟨_, _, h⟩ := h; h.data.elim fun n e => ⟨_, n, e⟩
theorem LstO.seq {o : Obj} {vs : List Value} (h : LstO o vs) : ∃ vs n, o.data = .seq vs n := h.weak.data.elim fun n e => ⟨_, n, e⟩
theorem ListO.seq {o : Obj} {vs : List Value} (h : ListO o vs) : ∃ vs n, o.data = .seq vs n := h.data.elim fun n e => ⟨_, n, e⟩
theorem TupO.seq {o : Obj} {vs : List Value} (h : TupO o vs) : ∃ vs n, o.data = .seq vs n := h.data.elim fun n e => ⟨_, n, e⟩
theorem Strs.get {vs : List Value} {bs : List (List Nat)} (h : Strs vs bs) {i : Nat} {v : Value} (e : vs[i]? = some v) : ∃ y t, v = .str y t ∧ bs[i]? = some (tl y) := by
  obtain ⟨ys, rfl, rfl⟩ := h
  rw [strValues, List.getElem?_map] at e
  cases hy : ys[i]? with
  | none => rw [hy] at e; cases e
  | some p =>
    rw [hy] at e
    cases e
    exact ⟨p.1, p.2, rfl, by rw [List.getElem?_map, hy]; rfl⟩

structure Car where
  row : List (List Nat)
  taken : Nat
  load : Nat
  begun : Nat
  st : List (Nat × Nat)
def isB (b : List Nat) : Bool := decide (b.headD 0 = 40)
def carStep (room : Nat) (σ : Car) (place : Nat) (box : List Nat) : Car :=
  let moved := if isB box then decide (σ.load < room) else decide (0 < σ.load)
  let row := σ.row ++ [if moved then box.map swp else box]
  if moved && isB box then { row := row, taken := σ.taken + 1, load := σ.load + 1, begun := if σ.load = 0 then place else σ.begun, st := σ.st }
  else if moved then { row := row, taken := σ.taken, load := σ.load - 1, begun := σ.begun, st := if σ.load - 1 = 0 then σ.st ++ [(σ.begun, place + 1)] else σ.st }
  else { row := row, taken := σ.taken, load := σ.load, begun := σ.begun, st := σ.st }
def carRun (room : Nat) : Car → Nat → List (List Nat) → Car
  | σ, _, [] => σ
  | σ, i, b :: bs => carRun room (carStep room σ i b) (i + 1) bs
def car0 : Car := ⟨[], 0, 0, 0, []⟩

/-- the loop's invariant -/
structure CaJ (bs : List (List Nat)) (room : Nat) (tr : Tok) (r : Addr) (i : Nat) (m : Str → Option Value) (D : List (Addr × Obj)) : Prop where
  ex : ∃ or os S Ts vr vs σ t1 t2 t3, D = (r, or) :: (S, os) :: Ts ∧ LstO or vr ∧ ListO os vs ∧ Strs vr σ.row ∧ Prs Ts vs σ.st ∧ (∀ p ∈ Ts, p.1 ≠ r ∧ ∃ q, PairO p.2 q) ∧ S ≠ r ∧
    carRun room σ i (bs.drop i) = carRun room car0 0 bs ∧ σ.row.length = i ∧ σ.st.length ≤ i ∧ σ.taken ≤ i ∧ σ.load ≤ i ∧
    m (Str.ofString "row") = some (.ref r) ∧ m (Str.ofString "taken") = some (.int (σ.taken : Nat) t1) ∧ m (Str.ofString "load") = some (.int (σ.load : Nat) t2) ∧ m (Str.ofString "begun") = some (.int (σ.begun : Nat) t3) ∧
    m (Str.ofString "stretches") = some (.ref S) ∧ m (Str.ofString "room") = some (.int (room : Nat) tr)

set_option maxHeartbeats 4000000 in
theorem carried_ok {w : World} {A : Around} {E : Value → Shared → Prop} {s : Shared} {l : Addr} {ol : Obj} {vl : List Value} {bs : List (List Nat)} {room : Nat} {tr : Tok} {Q : Value → Shared → Prop} (B : Base w s) (R : Room A 4)
    (hl : s.heap.get? l = some ol) (hol : ListO ol vl) (hvl : Strs vl bs) (hn : bs.length ≤ 100) (hb : ∀ b ∈ bs, 1 ≤ b.length ∧ b.length ≤ 20)
    (g : ∀ T oT r or S os Ts vr vs t s', Calm s s' → TupO oT [.ref r, .int ((carRun room car0 0 bs).taken : Nat) t, .ref S] → ListO or vr → ListO os vs → Strs vr (carRun room car0 0 bs).row → Prs Ts vs (carRun room car0 0 bs).st →
      (∀ p ∈ Ts, ∃ q, PairO p.2 q) → (∀ p ∈ (T, oT) :: (r, or) :: (S, os) :: Ts, s'.heap.get? p.1 = some p.2) → Q (.ref T) s') :
    wpAny (model Challenge.rw_pm0006_01.row.prog w) A (call (.ref 61) [.ref l, .int (room : Nat) tr]) Q E s := by
  refine enter (d := 3) (binds := [(Str.ofString "boxes", .ref l), (Str.ofString "room", .int (room : Nat) tr)]) B (R.mono (by decide)) rfl (by kernel_rfl) rfl (locs rfl) fun L s1 h => ?_
  have hl1 : s1.heap.get? l = some ol := h.fr.keep _ _ hl
  have hne : l ≠ L := hol.data.elim fun n e => seq_ne h.fr.ns hl1 e
  walk_at "pms"
  refine Assign_Tuple ?_
  walk_at "pms"
  rename_i r1 or1 _ hor1 _ hf1 hL1 _ t1 _ _ t2 _ _ t3 _ _ S oS _ hoS hdS hfS hLS _ T oT s2 hT hdT h2
  refine r_unpack5 h2 R.1 (.head _) hT fun s3 h3 => ?_
  walk_at "pms"
  refine wpAny_For ?_
  walk_at "pms"
  rename Loc _ _ _ _ _ _ _ _ => h4
  rename Shared => s4
  have hl4 : s4.heap.get? l = some ol := h4.fr.keep _ _ hl
  refine call_enumerate_list (hol.is hl4) fun h' he hi hz hk => ?_
  refine wpAny_pyIter_enum he ?_
  have hnew : ∀ b o, s4.heap.get? b = some o → b ≠ s4.heap.objs.size ∧ b ≠ s4.heap.objs.size + 1 := fun b o e => ⟨Nat.ne_of_lt (Heap.lt_size e), Nat.ne_of_lt (Nat.lt_succ_of_lt (Heap.lt_size e))⟩
  have hge : ∀ b ∈ [s4.heap.objs.size + 1, s4.heap.objs.size], s4.heap.objs.size ≤ b := fun b hb => by
    rcases List.mem_cons.mp hb with rfl | hb
    · exact Nat.le_succ _
    · exact Nat.le_of_eq (List.mem_singleton.mp hb).symm
  have h5 := h4.calm (calm_heap (k := s4.toks) hk)
  have hr1 : s4.heap.get? r1 = some or1 := h4.get (by walk_at "mem")
  refine walk_loopT (sr := s1) (CaJ bs room tr r1) [r1] (WalksT.enumerate (by exact R.1) (s4.heap.objs.size + 1) s4.heap.objs.size l (Nat.succ_ne_self _) (hnew _ _ hl4).2 (hnew _ _ hl4).1 vl.toArray) ?_ ?_ ?_ (fun b hb => h4.new0 (hge b hb)) (fun b hb => h4.newsr (fun _ q => nomatch q) (hge b hb)) ?_ ?_ ?_
    ⟨or1, oS, S, [], [], [], car0, t1, t2, t3, rfl, hor1, hoS.weak, Strs.nil, Prs.nil, fun p hp => (nomatch hp), fun q => hdS _ (.head _) q.symm, by rfl, rfl, Nat.le_refl _, Nat.le_refl _, Nat.le_refl _, by walk_at "lk", by walk_at "lk", by walk_at "lk", by walk_at "lk", by walk_at "lk", rfl⟩ ((h5.weakW (fun _ q => nomatch q)).sub ?_) ⟨⟨_, he⟩, hi, (hol.is hl4).at fun o e => hk _ _ e⟩
  · rintro i h ⟨⟨old, he⟩, ⟨oi, hoi, _, hdi⟩, _⟩ b hb
    rcases List.mem_cons.mp hb with rfl | hb
    · exact ⟨_, _, he, rfl⟩
    · rw [List.mem_singleton.mp hb]
      exact ⟨_, _, hoi, hdi⟩
  · intro q
    rcases List.mem_cons.mp q with q | q
    · exact (Nat.ne_of_lt (Nat.lt_succ_of_lt h4.ltL)) q
    · rcases List.mem_cons.mp q with q | q
      · exact (Nat.ne_of_lt h4.ltL) q
      · exact hne (List.mem_singleton.mp q).symm
  · intro b hb q
    rw [List.mem_singleton.mp q] at hb
    rcases List.mem_cons.mp hb with q | q
    · exact (hnew _ _ hr1).2 q
    · rcases List.mem_cons.mp q with q | q
      · exact (hnew _ _ hr1).1 q
      · rw [List.mem_singleton.mp q, hl] at hf1
        cases hf1
  · rintro i m D ⟨or, os, S, Ts, vr, vs, σ, t1, t2, t3, rfl, hor, hos, hvr, hprs, hTs, -⟩ p hp
    rcases List.mem_cons.mp hp with rfl | hp
    · exact hor.seq
    · rcases List.mem_cons.mp hp with rfl | hp
      · exact hos.seq
      · exact (hTs p hp).2.elim fun q hq => hq.seq
  · rintro i vals T oT m D s6 hi ⟨tp, v, hv, rfl⟩ ⟨or, os, S, Ts, vr, vs, σ, t1, t2, t3, rfl, hor, hos, hvr, hprs, hTs, hSr, hrun, hlr, hls, hlt, hll, mrow, mta, mlo, mbe, mst, mro⟩ hoT h6
    obtain ⟨y, u, rfl, hby⟩ := hvl.get (by simpa using hv)
    have hlt2 : i < bs.length := by rw [← hvl.len]; simpa using hi
    have hdrop : bs.drop i = tl y :: bs.drop (i + 1) := by
      rw [List.drop_eq_getElem_cons hlt2]
      rw [List.getElem?_eq_getElem hlt2] at hby
      rw [Option.some.inj hby]
    obtain ⟨hy1, hy2⟩ := hb (tl y) (List.mem_of_getElem? hby)
    rw [tl_len] at hy1 hy2
    rw [hdrop] at hrun
    replace hrun : carRun room (carStep room σ i (tl y)) (i + 1) (bs.drop (i + 1)) = carRun room car0 0 bs := hrun
    replace h6 := h6.snap [r1]
    refine r_unpack2 h6 R.1 (.head _) hoT fun s7 h7 => ?_
    have hB : (Txt.item y 0 == Str.ofString "(") = isB (tl y) := by
      rw [str_eq, show tl (Str.ofString "(") = [40] by decide, item0 hy1]
      simp [isB]
    walk_at "pms"
    refine r_str_item (by assumption) (by decide) (by omega) (by omega) ?_
    intro _ _ _
    walk_at "pms"
    rw [hB]
    have offR : ∀ {S : Addr} {os : Obj} {Ts : List (Addr × Obj)}, S ≠ r1 → (∀ p ∈ Ts, p.1 ≠ r1) → ∀ p ∈ (S, os) :: Ts, p.1 ≠ r1 := fun h1 h2 p hp => by
      rcases List.mem_cons.mp hp with rfl | hp
      · exact h1
      · exact h2 p hp
    have hcs : ∀ (n : Nat), (((n + 1 : Nat)) : Int) = (n : Int) + 1 := fun n => by omega
    cases hBv : isB (tl y) with
    | true =>
      walk_at "pms"
      rename Loc _ _ _ _ _ _ _ _ => h8
      by_cases hm : σ.load < room
      · rw [decide_eq_true (show (σ.load : Int) < (room : Int) by omega)] at h8 ⊢
        walk_at "pms"
        refine r_str_item (by assumption) (by decide) (by omega) (by omega) ?_
        intro _ _ _
        walk_at "pms"
        rw [hB, hBv]
        walk_at "pms"
        have hst : carStep room σ i (tl y) = { row := σ.row ++ [(tl y).map swp], taken := σ.taken + 1, load := σ.load + 1, begun := if σ.load = 0 then i else σ.begun, st := σ.st } := by
          simp [carStep, hBv, hm]
        rw [hst] at hrun
        by_cases h0 : σ.load = 0
        · rw [show ((σ.load : Int) == 0) = true by rw [h0]; rfl]
          walk_at "pms"
          refine Assign_Tuple_swapped (names := [Str.ofString "load", Str.ofString "taken"]) ?_
          walk_at "pms"
          rename_i T2 oT2 _ hT2 _ h9
          refine r_swapped2 h9 R.1 (.head _) hT2 fun s9 h9 => ?_
          walk_at "pms"

          refine r_callRef (by assumption) rfl ?_
          rename Loc _ _ _ _ _ _ _ _ => h9
          refine turned_ok h9.toBase (R.deeper.mono (by decide)) (by omega) fun z tz s10 hz hcz => ?_
          have h10 := h9.calm hcz
          walk_at "pms"
          rename Loc _ _ _ _ _ _ _ _ => h11
          show wpAny _ _ (call (.builtin "list.append") [.ref r1, .str _ _]) _ _ _

          refine r_append (D := (S, os) :: Ts) (h11.sub (fun p hp => .tail _ (.tail _ (hp)))) hor (.head _) hf1 (offR hSr (fun p hp => (hTs p hp).1)) (by rw [hvr.len, hlr, sizeLine_eq]; omega) fun or' s12 hor' h12 => ?_
          walk_at "pms"
          rename Loc _ _ _ _ _ _ _ _ => h13

          have hvr' := hvr.snoc z tz
          rw [hz] at hvr'
          refine ⟨_, _, ?_, h13⟩
          refine ⟨or', os, S, Ts, _, vs, { row := σ.row ++ [(tl y).map swp], taken := σ.taken + 1, load := σ.load + 1, begun := if σ.load = 0 then i else σ.begun, st := σ.st }, _, _, tp, rfl, hor', hos, hvr', hprs, hTs, hSr, hrun, by simp [hlr], by simp; omega, by simp; omega, by simp; omega, by walk_at "lk", (by rw [hcs]; walk_at "lk"), (by rw [hcs]; walk_at "lk"), ?_, by walk_at "lk", by walk_at "lk"⟩
          rw [if_pos h0]
          walk_at "lk"
        · rw [show ((σ.load : Int) == 0) = false by simp; exact h0]
          walk_at "pms"
          refine Assign_Tuple_swapped (names := [Str.ofString "load", Str.ofString "taken"]) ?_
          walk_at "pms"
          rename_i T2 oT2 _ hT2 _ h9
          refine r_swapped2 h9 R.1 (.head _) hT2 fun s9 h9 => ?_
          walk_at "pms"

          refine r_callRef (by assumption) rfl ?_
          rename Loc _ _ _ _ _ _ _ _ => h9
          refine turned_ok h9.toBase (R.deeper.mono (by decide)) (by omega) fun z tz s10 hz hcz => ?_
          have h10 := h9.calm hcz
          walk_at "pms"
          rename Loc _ _ _ _ _ _ _ _ => h11
          show wpAny _ _ (call (.builtin "list.append") [.ref r1, .str _ _]) _ _ _

          refine r_append (D := (S, os) :: Ts) (h11.sub (fun p hp => .tail _ (.tail _ (hp)))) hor (.head _) hf1 (offR hSr (fun p hp => (hTs p hp).1)) (by rw [hvr.len, hlr, sizeLine_eq]; omega) fun or' s12 hor' h12 => ?_
          walk_at "pms"
          rename Loc _ _ _ _ _ _ _ _ => h13

          have hvr' := hvr.snoc z tz
          rw [hz] at hvr'
          refine ⟨_, _, ?_, h13⟩
          refine ⟨or', os, S, Ts, _, vs, { row := σ.row ++ [(tl y).map swp], taken := σ.taken + 1, load := σ.load + 1, begun := if σ.load = 0 then i else σ.begun, st := σ.st }, _, _, t3, rfl, hor', hos, hvr', hprs, hTs, hSr, hrun, by simp [hlr], by simp; omega, by simp; omega, by simp; omega, by walk_at "lk", (by rw [hcs]; walk_at "lk"), (by rw [hcs]; walk_at "lk"), ?_, by walk_at "lk", by walk_at "lk"⟩
          rw [if_neg h0]
          walk_at "lk"
      · rw [decide_eq_false (show ¬ (σ.load : Int) < (room : Int) by omega)] at h8 ⊢
        walk_at "pms"
        have hst : carStep room σ i (tl y) = { row := σ.row ++ [tl y], taken := σ.taken, load := σ.load, begun := σ.begun, st := σ.st } := by
          simp [carStep, hBv, hm]
        rw [hst] at hrun
        rename Loc _ _ _ _ _ _ _ _ => h11
        show wpAny _ _ (call (.builtin "list.append") [.ref r1, .str _ _]) _ _ _

        refine r_append (D := (S, os) :: Ts) (h11.sub (fun p hp => .tail _ (hp))) hor (.head _) hf1 (offR hSr (fun p hp => (hTs p hp).1)) (by rw [hvr.len, hlr, sizeLine_eq]; omega) fun or' s12 hor' h12 => ?_
        walk_at "pms"
        rename Loc _ _ _ _ _ _ _ _ => h13
        refine ⟨_, _, ?_, h13⟩
        exact ⟨or', os, S, Ts, _, vs, { row := σ.row ++ [tl y], taken := σ.taken, load := σ.load, begun := σ.begun, st := σ.st }, _, _, _, rfl, hor', hos, hvr.snoc _ _, hprs, hTs, hSr, hrun, by simp [hlr], by simp; omega, by simp; omega, by simp; omega, by walk_at "lk", by walk_at "lk", by walk_at "lk", by walk_at "lk", by walk_at "lk", by walk_at "lk"⟩
    | false =>
      walk_at "pms"
      rename Loc _ _ _ _ _ _ _ _ => h8
      by_cases hm : 0 < σ.load
      · rw [decide_eq_true (show (σ.load : Int) > 0 by omega)] at h8 ⊢
        walk_at "pms"
        refine r_str_item (by assumption) (by decide) (by omega) (by omega) ?_
        intro _ _ _
        walk_at "pms"
        rw [hB, hBv]
        walk_at "pms"
        have hst : carStep room σ i (tl y) = { row := σ.row ++ [(tl y).map swp], taken := σ.taken, load := σ.load - 1, begun := σ.begun, st := if σ.load - 1 = 0 then σ.st ++ [(σ.begun, i + 1)] else σ.st } := by
          simp [carStep, hBv, hm]
        rw [hst] at hrun
        have hls1 : ((σ.load - 1 : Nat) : Int) = (σ.load : Int) - 1 := by omega
        by_cases h0 : σ.load - 1 = 0
        · rw [show ((σ.load : Int) - 1 == 0) = true by simp; omega]
          walk_at "pms"
          rename_i T3 oT3 _ hT3 hT3d _ L3 oL3 _ hoL3 hL3d hL3f hL3L h9
          refine r_add_list h9 (.tail _ (.tail _ (.tail _ (.tail _ (.head _))))) hos (.head _) hoL3.weak (by rw [hprs.len, sizeLine_eq]; simp; omega) fun S2 oS2 s10 hoS2 hS2 hS2f h10 => ?_
          walk_at "pms"
          refine r_callRef (by assumption) rfl ?_
          rename Loc _ _ _ _ _ _ _ _ => h9
          refine turned_ok h9.toBase (R.deeper.mono (by decide)) (by omega) fun z tz s10 hz hcz => ?_
          have h10 := h9.calm hcz
          walk_at "pms"
          rename Loc _ _ _ _ _ _ _ _ => h11
          show wpAny _ _ (call (.builtin "list.append") [.ref r1, .str _ _]) _ _ _

          refine r_append (D := (S2, oS2) :: (T3, oT3) :: Ts) (h11.sub (by
            intro p hp
            simp only [List.mem_cons] at hp ⊢
            rcases hp with rfl | rfl | rfl | hp
            · exact .inr (.inr (.inr (.inr (.inl rfl))))
            · exact .inl rfl
            · exact .inr (.inr (.inl rfl))
            · exact .inr (.inr (.inr (.inr (.inr (.inr hp))))))) hor (.head _) hf1 (offR (fun q => hS2 _ (.tail _ (.tail _ (.tail _ (.head _)))) q.symm) (offR (fun q => hT3d _ (.tail _ (.head _)) q.symm) (fun p hp => (hTs p hp).1))) (by rw [hvr.len, hlr, sizeLine_eq]; omega) fun or' s12 hor' h12 => ?_
          walk_at "pms"
          rename Loc _ _ _ _ _ _ _ _ => h13

          have hvr' := hvr.snoc z tz
          rw [hz] at hvr'
          refine ⟨_, _, ?_, h13⟩
          refine ⟨or', oS2, S2, (T3, oT3) :: Ts, _, _, { row := σ.row ++ [(tl y).map swp], taken := σ.taken, load := σ.load - 1, begun := σ.begun, st := if σ.load - 1 = 0 then σ.st ++ [(σ.begun, i + 1)] else σ.st }, _, _, _, rfl, hor', hoS2, hvr', ?_, ?_, (fun q => hS2 _ (.tail _ (.tail _ (.tail _ (.head _)))) q.symm), hrun, by simp [hlr], ?_, by simp; omega, by simp; omega, by walk_at "lk", by walk_at "lk", (by rw [hls1]; walk_at "lk"), by walk_at "lk", by walk_at "lk", by walk_at "lk"⟩
          · rw [if_pos h0]; exact hprs.snoc ⟨_, _, hT3⟩
          · intro p hp
            rcases List.mem_cons.mp hp with rfl | hp
            · exact ⟨fun q => hT3d _ (.tail _ (.head _)) q.symm, (σ.begun, i + 1), _, _, hT3⟩
            · exact hTs p hp
          · rw [if_pos h0]; simp; omega

        · rw [show ((σ.load : Int) - 1 == 0) = false by simp; omega]
          walk_at "pms"
          refine r_callRef (by assumption) rfl ?_
          rename Loc _ _ _ _ _ _ _ _ => h9
          refine turned_ok h9.toBase (R.deeper.mono (by decide)) (by omega) fun z tz s10 hz hcz => ?_
          have h10 := h9.calm hcz
          walk_at "pms"
          rename Loc _ _ _ _ _ _ _ _ => h11
          show wpAny _ _ (call (.builtin "list.append") [.ref r1, .str _ _]) _ _ _

          refine r_append (D := (S, os) :: Ts) (h11.sub (fun p hp => .tail _ (hp))) hor (.head _) hf1 (offR hSr (fun p hp => (hTs p hp).1)) (by rw [hvr.len, hlr, sizeLine_eq]; omega) fun or' s12 hor' h12 => ?_
          walk_at "pms"
          rename Loc _ _ _ _ _ _ _ _ => h13

          have hvr' := hvr.snoc z tz
          rw [hz] at hvr'
          refine ⟨_, _, ?_, h13⟩
          refine ⟨or', os, S, Ts, _, vs, { row := σ.row ++ [(tl y).map swp], taken := σ.taken, load := σ.load - 1, begun := σ.begun, st := if σ.load - 1 = 0 then σ.st ++ [(σ.begun, i + 1)] else σ.st }, _, _, _, rfl, hor', hos, hvr', ?_, hTs, hSr, hrun, by simp [hlr], ?_, by simp; omega, by simp; omega, by walk_at "lk", by walk_at "lk", (by rw [hls1]; walk_at "lk"), by walk_at "lk", by walk_at "lk", by walk_at "lk"⟩
          · rw [if_neg h0]; exact hprs
          · rw [if_neg h0]; show σ.st.length ≤ i + 1; omega
      · rw [decide_eq_false (show ¬ (σ.load : Int) > 0 by omega)] at h8 ⊢
        walk_at "pms"
        have hst : carStep room σ i (tl y) = { row := σ.row ++ [tl y], taken := σ.taken, load := σ.load, begun := σ.begun, st := σ.st } := by
          simp [carStep, hBv, hm]
        rw [hst] at hrun
        rename Loc _ _ _ _ _ _ _ _ => h11
        show wpAny _ _ (call (.builtin "list.append") [.ref r1, .str _ _]) _ _ _

        refine r_append (D := (S, os) :: Ts) (h11.sub (fun p hp => .tail _ (hp))) hor (.head _) hf1 (offR hSr (fun p hp => (hTs p hp).1)) (by rw [hvr.len, hlr, sizeLine_eq]; omega) fun or' s12 hor' h12 => ?_
        walk_at "pms"
        rename Loc _ _ _ _ _ _ _ _ => h13
        refine ⟨_, _, ?_, h13⟩
        exact ⟨or', os, S, Ts, _, vs, { row := σ.row ++ [tl y], taken := σ.taken, load := σ.load, begun := σ.begun, st := σ.st }, _, _, _, rfl, hor', hos, hvr.snoc _ _, hprs, hTs, hSr, hrun, by simp [hlr], by simp; omega, by simp; omega, by simp; omega, by walk_at "lk", by walk_at "lk", by walk_at "lk", by walk_at "lk", by walk_at "lk", by walk_at "lk"⟩
  · rintro m D s6 ⟨or, os, S, Ts, vr, vs, σ, t1, t2, t3, rfl, hor, hos, hvr, hprs, hTs, hSr, hrun, hlr, hls, hlt, hll, mrow, mta, mlo, mbe, mst, mro⟩ h6
    show wpAny _ _ (execs _ _) _ _ _
    walk_at "pms"
    rename_i _ _ T' oT' s7 hT' _ h7
    have hfin : σ = carRun room car0 0 bs := by
      rw [← hrun, List.drop_of_length_le (by rw [List.size_toArray, hvl.len]; exact Nat.le_refl _)]
      rfl
    subst hfin
    exact g T' oT' r1 or S os Ts vr vs t1 _ h7.done hT' hor.weak hos hvr hprs (fun p hp => (hTs p hp).2) fun p hp => (h7.led p hp).1
  · intro p hp
    simp only [List.mem_cons, List.not_mem_nil, or_false] at hp ⊢
    rcases hp with rfl | rfl
    · exact .inr (.inr rfl)
    · exact .inr (.inl rfl)

section
variable {w : World} {A : Around} {E : Value → Shared → Prop} {s₀ sr s : Shared} {L : Addr} {m : Str → Option Value} {D : List (Addr × Obj)} {W : List Addr} {name : Str} {scope : Scope} {f : Addr} {cd : Value} {prog : Program}

theorem range_loop {R : Result → Shared → Prop} {r : Addr} {a b c : Int} {t u v : Tok} {x : Str} {px : Pos} {body : List Stmt} (J : Nat → (Str → Option Value) → List (Addr × Obj) → Prop) (n : Nat) (hh : A.handled = none)
    (hr : IsRange s.heap r a b c t u v) (hsmall : Builtin.Range.small a b c = true) (hn : Builtin.Range.rangeSize a b c = (n : Int)) (hWlt : ∀ b ∈ W, b < s.heap.objs.size)
    (hJD : ∀ i m D, J i m D → ∀ p ∈ D, ∃ vs n, p.2.data = .seq vs n)
    (step : ∀ i tk m D (s1 : Shared), i < n → J i m D → Loc w s₀ L (upd m x (.int (a + i * c) tk)) D W s1 s1 → (∀ m' D' s', Loc w s₀ L m' D' W s1 s' → Loc w s₀ L m' D' W sr s') →
      wpAny (model prog w) A (execs body (envOf name scope L f cd)) (fun fl s3 => match fl with
        | .next | .cont => ∃ m' D', J (i + 1) m' D' ∧ Loc w s₀ L m' D' W s1 s3
        | .brk => R (.ok .next) s3
        | .ret v => R (.ok (.ret v)) s3) FF s1)
    (fin : ∀ m D s3, J n m D → Loc w s₀ L m D W sr s3 → R (.ok .next) s3)
    (hJ : J 0 m D) (h : Loc w s₀ L m D W sr s) (hk : scope.kind = .function := by rfl) (hl : (envOf name scope L f cd).kindOf x = some .local := by rfl) :
    wpAny (model prog w) A (pyIter (.ref r)) (fun it s₂ => codeAny (model prog w) A (.forLoop (.Name x px) it body [] (envOf name scope L f cd)) R s₂) E s := by
  refine wpAny_pyIter_range hr hsmall ?_
  have h2 := h.grow { cls := .type "range_iterator", data := .fields #[rawInt a, rawInt (Builtin.Range.rangeSize a b c), rawInt c] } s.toks
  refine walk_loop J W (Walks.range hh s.heap.objs.size a c n) ?_ ?_ ?_ ?_ ?_ hJD ?_ fin hJ h2 ?_ (fun _ => rfl)
  · intro i h hst b hb
    rw [List.mem_singleton.mp hb]
    exact ⟨_, _, hst, rfl⟩
  · intro q
    exact (Nat.ne_of_lt h.ltL) (List.mem_singleton.mp q)
  · intro b hb q
    rw [List.mem_singleton.mp hb] at q
    exact absurd (hWlt _ q) (Nat.lt_irrefl _)
  · intro b hb
    rw [List.mem_singleton.mp hb]
    exact h.new0 (Nat.le_refl _)
  · intro b hb
    rw [List.mem_singleton.mp hb]
    exact h.newsr hWlt (Nat.le_refl _)
  · rintro i v m D s1 hi ⟨tk, rfl⟩ hJ h1
    refine wpAny_assign_Name (r_store (h1.snap W) (fun s' h3 => ?_) hk hl)
    have h4 := h3.snap W
    refine ff (wpAny_mono (step i tk m D s' hi hJ h4 (fun m' D' s'' h5 => h1.trans (h3.trans h5))) (fun fl s3 hf => ?_) fun _ _ x => x)
    cases fl with
    | next => obtain ⟨m', D', hJ', h5⟩ := hf; exact ⟨m', D', hJ', h3.trans h5⟩
    | cont => obtain ⟨m', D', hJ', h5⟩ := hf; exact ⟨m', D', hJ', h3.trans h5⟩
    | brk => exact hf
    | ret v => exact hf
  · show IsRangeIter _ _ _ _ _
    rw [← hn]
    have : (a + ((0 : Nat) : Int) * c) = a := by simp
    rw [this]
    simp only [Int.natCast_zero, Int.sub_zero]
    exact Heap.get?_push_size _ rfl
theorem range_size1 {a b : Nat} : Builtin.Range.rangeSize (a : Int) (b : Int) 1 = ((b - a : Nat) : Int) := by
  unfold Builtin.Range.rangeSize
  rw [if_pos (by decide)]
  split <;> omega
theorem range_size2 {a b : Nat} : Builtin.Range.rangeSize (a : Int) (b : Int) 2 = (((b - a + 1) / 2 : Nat) : Int) := by
  unfold Builtin.Range.rangeSize
  rw [if_pos (by decide)]
  split <;> omega
theorem range_small1 {a b : Nat} (ha : a ≤ 1000) (hb : b ≤ 1000) : Builtin.Range.small (a : Int) (b : Int) 1 = true := small_one (by omega) (by omega) (by omega) (by omega)
theorem range_small2 {a b : Nat} (ha : a ≤ 1000) (hb : b ≤ 1000) : Builtin.Range.small (a : Int) (b : Int) 2 = true := by
  have F : ∀ n : Int, -5000 ≤ n → n ≤ 5000 → Builtin.Range.rangeFitsLong n = true := fun n h1 h2 => by
    simp only [Builtin.Range.rangeFitsLong, Bool.and_eq_true, decide_eq_true_eq]
    omega
  unfold Builtin.Range.small
  rw [range_size2, F _ (by omega) (by omega), F _ (by omega) (by omega), F _ (by omega) (by omega), F _ (by omega) (by omega), if_pos (by decide), F _ (by omega) (by omega)]
  simp
end

/-- these values are numbers -/
def Nums (vs : List Value) (ns : List Nat) : Prop := ∃ ys : List (Nat × Tok), vs = ys.map (fun p => .int (p.1 : Nat) p.2) ∧ ys.map (·.1) = ns
theorem Nums.nil : Nums [] [] := ⟨[], rfl, rfl⟩
theorem Nums.snoc {vs : List Value} {ns : List Nat} (h : Nums vs ns) (n : Nat) (t : Tok) : Nums (vs ++ [.int (n : Nat) t]) (ns ++ [n]) := by
  obtain ⟨ys, rfl, rfl⟩ := h
  exact ⟨ys ++ [(n, t)], by simp, by simp⟩
theorem Nums.len {vs : List Value} {ns : List Nat} (h : Nums vs ns) : vs.length = ns.length := by
  obtain ⟨ys, rfl, rfl⟩ := h
  simp

def struckRun : Nat → List Nat → List Nat → List Nat × List Nat
  | 0, told, t => (told, t)
  | k + 1, told, t => if replL [40, 41] [] t = t then (told, t) else struckRun k (told ++ [(t.length - (replL [40, 41] [] t).length) / 2]) (replL [40, 41] [] t)
def struckF (bs : List (List Nat)) : List Nat × List Nat :=
  struckRun bs.length [] (replsF [([92, 40], []), ([92, 41], []), ([97], [])] (stripF (bs.flatten ++ [34])))

theorem replsF_len {ps : List (List Nat × List Nat)} (hp : ∀ p ∈ ps, p.2.length ≤ 1) (l : List Nat) : (replsF ps l).length ≤ l.length := by
  induction ps generalizing l with
  | nil => exact Nat.le_refl _
  | cons p ps ih =>
    have h1 := ih (fun q hq => hp q (.tail _ hq)) (replL p.1 p.2 l)
    have h2 : (replL p.1 p.2 l).length ≤ l.length := replL_len (hp p (.head _)) 0 l
    exact Nat.le_trans h1 h2

structure StrJ (fin : List Nat × List Nat) (n : Nat) (r : Addr) (i : Nat) (m : Str → Option Value) (D : List (Addr × Obj)) : Prop where
  ex : ∃ or vr told y ty, D = [(r, or)] ∧ LstO or vr ∧ Nums vr told ∧ told.length ≤ i ∧ i ≤ n ∧ y.length ≤ 2000 ∧ m (Str.ofString "told") = some (.ref r) ∧ m (Str.ofString "text") = some (.str y ty) ∧ struckRun (n - i) told (tl y) = fin

theorem flatten_len {bs : List (List Nat)} (hb : ∀ b ∈ bs, b.length ≤ 20) : bs.flatten.length ≤ bs.length * 20 := by
  induction bs with
  | nil => simp
  | cons b bs ih =>
    have h1 := hb b (.head _)
    have h2 := ih fun c hc => hb c (.tail _ hc)
    simp only [List.flatten_cons, List.length_append, List.length_cons]
    omega

set_option maxHeartbeats 4000000 in
theorem struck_ok {w : World} {A : Around} {E : Value → Shared → Prop} {s : Shared} {l : Addr} {ol : Obj} {vl : List Value} {bs : List (List Nat)} {Q : Value → Shared → Prop} (B : Base w s) (R : Room A 4)
    (hl : s.heap.get? l = some ol) (hol : ListO ol vl) (hvl : Strs vl bs) (hn : bs.length ≤ 60) (hb : ∀ b ∈ bs, b.length ≤ 20)
    (g : ∀ T oT r or vr y t s', Calm s s' → TupO oT [.ref r, .str y t] → ListO or vr → Nums vr (struckF bs).1 → tl y = (struckF bs).2 → (∀ p ∈ [(T, oT), (r, or)], s'.heap.get? p.1 = some p.2) → Q (.ref T) s') :
    wpAny (model Challenge.rw_pm0006_01.row.prog w) A (call (.ref 75) [.ref l]) Q E s := by
  refine enter (d := 3) (binds := [(Str.ofString "boxes", .ref l)]) B (R.mono (by decide)) rfl (by kernel_rfl) rfl (locs rfl) fun L s1 h => ?_
  have hl1 : s1.heap.get? l = some ol := h.fr.keep _ _ hl
  have hne : l ≠ L := hol.data.elim fun n e => seq_ne h.fr.ns hl1 e
  have hfl := flatten_len hb
  replace h := h.add hl1 hne
  walk_at "pms"
  rename Loc _ _ _ _ _ _ _ _ => h2
  show wpAny _ _ (call (.builtin "str.join") [.str _ _, .ref l]) _ _ _
  refine r_joinS h2 (.head _) hol hvl (by decide) (by omega) (fun b q => by have := hb b q; omega) fun j tj s3 hj h3 => ?_
  rw [show tl (Str.ofString "") = [] by decide, joinL_nil] at hj
  have hjl : j.length ≤ 1200 := by
    have := tl_len j
    rw [hj] at this
    omega
  walk_at "pm"
  refine r_add_str (by assumption) (by show j.length + 1 ≤ sizeLine; rw [sizeLine_eq]; omega) ?_
  intro _ _ _
  have hjq : tl (j ++ Str.ofString "\"") = bs.flatten ++ [34] := by
    show (j ++ Str.ofString "\"").cps.toList = _
    rw [Str.cps_append, Array.toList_append, show j.cps.toList = bs.flatten from hj]
    rfl
  have hjql : (j ++ Str.ofString "\"").length ≤ 2000 := by rw [← tl_len, hjq, List.length_append]; simp only [List.length_cons, List.length_nil]; omega
  generalize j ++ Str.ofString "\"" = jq at hjq hjql ⊢
  walk_at "pms"
  refine r_callRef (by assumption) rfl ?_
  rename Loc _ _ _ _ _ _ _ _ => h4
  refine strip_ok h4.toBase (R.deeper.mono (by decide)) hjql fun y ty s5 hy hc => ?_
  have h5 := h4.calm hc
  walk_at "pms"
  refine r_callRef (by assumption) rfl ?_
  rename Loc _ _ _ _ _ _ _ _ => h6
  have hyl : y.length ≤ 2000 := by
    have := stripF_len (tl jq)
    rw [← hy, tl_len, tl_len] at this
    omega
  show wpAny _ _ (call (.ref 21) (.str y ty :: flatP [((Str.ofString "\\(", _), (Str.ofString "", _)), ((Str.ofString "\\)", _), (Str.ofString "", _)), ((Str.ofString "a", _), (Str.ofString "", _))])) _ _ _
  refine replace_ok _ h6.toBase (R.deeper.mono (by decide)) hyl (by
    intro p hp
    simp only [List.mem_cons, List.not_mem_nil, or_false] at hp
    rcases hp with rfl | rfl | rfl <;> (show 1 ≤ (Str.ofString _).length ∧ Builtin.Str.strKind (Str.ofString _) = 1 ∧ (Str.ofString _).length ≤ 1; decide +kernel)) (.inr rfl) fun z tz s7 hz hc7 => ?_
  have h7 := h6.calm hc7
  have hz2 : tl z = replsF [([92, 40], []), ([92, 41], []), ([97], [])] (stripF (bs.flatten ++ [34])) := by
    rw [hz, hy, hjq]
    rfl
  have hzl : z.length ≤ 2000 := by
    have h1 := replsF_len (ps := [([92, 40], []), ([92, 41], []), ([97], [])]) (by
      intro p hp
      simp only [List.mem_cons, List.not_mem_nil, or_false] at hp
      rcases hp with rfl | rfl | rfl <;> exact Nat.zero_le _) (stripF (bs.flatten ++ [34]))
    rw [← hz2, ← hjq, ← hy, tl_len, tl_len] at h1
    omega
  clear hz
  walk_at "pms"
  refine wpAny_For ?_
  walk_at "pms"
  rename Loc _ _ _ _ _ _ _ _ => h8
  refine r_len_list h8 (by walk_at "mem") hol (by rw [hvl.len, sizeLine_eq]; omega) fun tn s9 h9 => ?_
  walk_at "pms"
  refine call_range_1 ?_
  have h10 := h9.grow { cls := .type "range", data := .fields #[.int 0 s9.toks, .int vl.length tn, .int 1 (s9.toks + 1)] } (s9.toks + 1 + 1)
  rename_i r or _ hor hrl hr0 hrL _ _
  have hrl' : r < s9.heap.objs.size := h9.lt _ (.head _)
  refine range_loop (r := s9.heap.objs.size) (a := ((0 : Nat) : Int)) (W := [r]) (StrJ (struckF bs) bs.length r) bs.length R.1 (Heap.get?_push_size s9.heap rfl) (range_small1 (by decide) (by rw [hvl.len]; omega)) (by rw [range_size1, hvl.len]; rfl) ?_ ?_ ?_ ?_
    ⟨or, [], [], z, tz, rfl, hor, Nums.nil, Nat.le_refl _, Nat.zero_le _, hzl, by walk_at "lk", by walk_at "lk", by rw [hz2]; rfl⟩ ((h10.weakW (fun _ q => nomatch q)).sub (D' := [(r, or)]) ?_)
  · intro b hb
    rw [List.mem_singleton.mp hb]
    exact Nat.lt_of_lt_of_le hrl' (by simp [Heap.push])
  · rintro i m D ⟨or, vr, told, y, ty, rfl, hor, -⟩ p hp
    rw [List.mem_singleton.mp hp]
    exact hor.seq
  · rintro i tk m D s11 hi ⟨or, vr, told, y, ty, rfl, hor, hvr, hto, hin, hyl, mto, mte, hfin⟩ h11 back
    walk_at "pms"
    refine r_callRef (by assumption) rfl ?_
    rename Loc _ _ _ _ _ _ _ _ => h12
    show wpAny _ _ (call (.ref 21) (.str y ty :: flatP [((Str.ofString "()", _), (Str.ofString "", _))])) _ _ _
    refine replace_ok _ h12.toBase (R.deeper.mono (by decide)) hyl (by
      intro p hp
      rw [List.mem_singleton.mp hp]
      show 1 ≤ (Str.ofString _).length ∧ Builtin.Str.strKind (Str.ofString _) = 1 ∧ (Str.ofString _).length ≤ 1
      decide +kernel) (.inl rfl) fun z tz s13 hz hc13 => ?_
    have h13 := h12.calm hc13
    replace hz : tl z = replL [40, 41] [] (tl y) := hz
    walk_at "pms"
    rw [str_eq, hz]
    obtain ⟨k, hk⟩ : ∃ k, bs.length - i = k + 1 := ⟨bs.length - i - 1, by omega⟩
    have hki : bs.length - (i + 1) = k := by omega
    rw [hk] at hfin
    by_cases heq : replL [40, 41] [] (tl y) = tl y
    · rw [decide_eq_true heq]
      walk_at "pms"
      rename_i T oT s15 hT hTd h15
      have e : struckF bs = (told, tl y) := by rw [← hfin]; simp [struckRun, heq]
      rw [e] at g
      exact g T oT r or vr y ty s15 h15.done hT hor.weak hvr rfl (fun p hp => (h15.led p hp).1)
    · rw [decide_eq_false heq]
      walk_at "pms"
      refine r_len_str (by assumption) (by rw [sizeLine_eq]; omega) ?_
      intro _ _ _
      walk_at "pms"
      refine r_len_str (by assumption) (by rw [sizeLine_eq]; rw [← tl_len, hz]; have := replL_len (y := [40, 41]) (z := []) (by decide) 0 (tl y); rw [tl_len] at this; unfold replL; omega) ?_
      intro _ _ _
      walk_at "pms"
      rename Loc _ _ _ _ _ _ _ _ => h14
      have hzy : z.length ≤ y.length := by
        have := replL_len (y := [40, 41]) (z := []) (by decide) 0 (tl y)
        rw [← tl_len, ← tl_len, hz]
        exact this
      have hdiv : ((y.length : Int) - (z.length : Int)).fdiv 2 = ((((tl y).length - (replL [40, 41] [] (tl y)).length) / 2 : Nat) : Int) := by
        rw [← hz, tl_len, tl_len, Int.fdiv_eq_ediv_of_nonneg _ (by decide)]
        omega
      rw [hdiv]
      show wpAny _ _ (call (.builtin "list.append") [.ref r, _]) _ _ _
      refine r_append (D := []) h14 hor (.head _) hr0 (fun p hp => (nomatch hp)) (by rw [hvr.len, sizeLine_eq]; omega) fun or' s15 hor' h15 => ?_
      walk_at "pms"
      rename Loc _ _ _ _ _ _ _ _ => h16
      refine ⟨_, _, ?_, h16⟩
      refine ⟨or', _, _, z, tz, rfl, hor', hvr.snoc _ _, by simp; omega, hi, by omega, by walk_at "lk", by walk_at "lk", ?_⟩
      rw [← hfin, hki, hz]
      simp [struckRun, heq]
  · rintro m D s11 ⟨or, vr, told, y, ty, rfl, hor, hvr, hto, hin, hyl, mto, mte, hfin⟩ h11
    show wpAny _ _ (execs _ _) _ _ _
    walk_at "pms"
    rename_i T oT s15 hT hTd h15
    have e : struckF bs = (told, tl y) := by rw [← hfin, Nat.sub_self]; rfl
    rw [e] at g
    exact g T oT r or vr y ty s15 h15.done hT hor.weak hvr rfl (fun p hp => (h15.led p hp).1)
  · intro p hp
    rw [List.mem_singleton.mp hp]
    exact .head _

theorem strs_sub {vs vs' : List Value} {bs : List (List Nat)} (f : ∀ {α : Type}, List α → List α) (hf : ∀ {α β : Type} (g : α → β) (l : List α), f (l.map g) = (f l).map g) (h : Strs vs bs) (e : vs' = f vs) : Strs vs' (f bs) := by
  obtain ⟨ys, rfl, rfl⟩ := h
  subst e
  exact ⟨f ys, by unfold strValues; rw [hf], by rw [hf]⟩
theorem strs_take {vs : List Value} {bs : List (List Nat)} (h : Strs vs bs) (b : Nat) (hb : b ≤ bs.length) : Strs (slicePick vs.toArray none (some (b : Int)) none).toList (bs.take b) :=
  strs_sub (fun l => l.take b) (fun g l => by rw [List.map_take]) h (by rw [slicePick_upto _ _ (by rw [List.size_toArray, h.len]; exact hb)])
theorem strs_drop {vs : List Value} {bs : List (List Nat)} (h : Strs vs bs) (b : Nat) (hb : b ≤ bs.length) : Strs (slicePick vs.toArray (some (b : Int)) none none).toList (bs.drop b) :=
  strs_sub (fun l => l.drop b) (fun g l => by rw [List.map_drop]) h (by rw [slicePick_from _ _ (by rw [List.size_toArray, h.len]; exact hb)])
theorem strs_mid {vs : List Value} {bs : List (List Nat)} (h : Strs vs bs) (a b : Nat) (hb : b ≤ bs.length) (hab : a ≤ b) : Strs (slicePick vs.toArray (some (a : Int)) (some (b : Int)) none).toList ((bs.drop a).take (b - a)) :=
  strs_sub (fun l => (l.drop a).take (b - a)) (fun g l => by rw [List.map_take, List.map_drop]) h (by rw [slicePick_run _ _ _ (by rw [List.size_toArray, h.len]; exact hb) hab])
theorem strs_takeU {vs : List Value} {bs : List (List Nat)} (h : Strs vs bs) (b : Nat) : Strs (slicePick vs.toArray none (some (b : Int)) none).toList (bs.take b) := by
  by_cases hb : b ≤ bs.length
  · exact strs_take h b hb
  · refine strs_sub (fun l => l.take b) (fun g l => by rw [List.map_take]) h ?_
    have h1 : vs.length ≤ b := by have := h.len; omega
    simp [slicePick_plain, clipAt_nat, Nat.min_eq_right h1, List.take_of_length_le h1]
theorem strs_dropU {vs : List Value} {bs : List (List Nat)} (h : Strs vs bs) (b : Nat) : Strs (slicePick vs.toArray (some (b : Int)) none none).toList (bs.drop b) := by
  by_cases hb : b ≤ bs.length
  · exact strs_drop h b hb
  · refine strs_sub (fun l => l.drop b) (fun g l => by rw [List.map_drop]) h ?_
    have h1 : vs.length ≤ b := by have := h.len; omega
    simp [slicePick_plain, clipAt_nat, Nat.min_eq_right h1, List.drop_of_length_le h1]
theorem strs_rev {vs : List Value} {bs : List (List Nat)} (h : Strs vs bs) : Strs (slicePick vs.toArray none none (some (-1))).toList bs.reverse :=
  strs_sub (fun l => l.reverse) (fun g l => by rw [List.map_reverse]) h (by rw [krv_pick])
theorem Strs.append {vs us : List Value} {bs cs : List (List Nat)} (h : Strs vs bs) (h' : Strs us cs) : Strs (vs ++ us) (bs ++ cs) := by
  obtain ⟨ys, rfl, rfl⟩ := h
  obtain ⟨zs, rfl, rfl⟩ := h'
  exact ⟨ys ++ zs, by simp [strValues], by simp⟩

def small3 (bs : List (List Nat)) : Prop := ∀ b ∈ bs, ∀ c ∈ b, c < 1114112
def dStr (l : List Nat) : PyData := .str ⟨l.toArray⟩
def dStrs (bs : List (List Nat)) : PyData := .list (bs.map dStr)
def dNums (ns : List Nat) : PyData := .list (ns.map fun (n : Nat) => PyData.int (n : Int))
def dPrs (ps : List (Nat × Nat)) : PyData := .list (ps.map fun p => .tuple [.int (p.1 : Int), .int (p.2 : Int)])

theorem reads_strs {h : Heap} {a : Addr} {o : Obj} {vs : List Value} {bs : List (List Nat)} (ha : h.get? a = some o) (ho : ListO o vs) (hv : Strs vs bs) : ∃ as, Reads h (.ref a) (dStrs bs) as := by
  obtain ⟨n, hd⟩ := ho.data
  have : ∀ (ys : List (Str × Tok)), ∃ as, ReadsAll h (strValues ys) ((ys.map (fun p => tl p.1)).map dStr) as := by
    intro ys
    induction ys with
    | nil => exact ⟨_, .nil⟩
    | cons p ys ih =>
      obtain ⟨as, ih⟩ := ih
      exact ⟨_, .cons (by
        have : dStr (tl p.1) = .str p.1 := by simp [dStr, tl]
        rw [this]
        exact .str p.1 p.2) ih⟩
  obtain ⟨ys, rfl, rfl⟩ := hv
  obtain ⟨as, r⟩ := this ys
  exact ⟨_, .list ha ho.cls hd (by simpa using r)⟩
theorem reads_nums {h : Heap} {a : Addr} {o : Obj} {vs : List Value} {ns : List Nat} (ha : h.get? a = some o) (ho : ListO o vs) (hv : Nums vs ns) : ∃ as, Reads h (.ref a) (dNums ns) as := by
  obtain ⟨n, hd⟩ := ho.data
  have : ∀ (ys : List (Nat × Tok)), ∃ as, ReadsAll h (ys.map fun p => .int (p.1 : Nat) p.2) ((ys.map (·.1)).map fun (n : Nat) => PyData.int (n : Int)) as := by
    intro ys
    induction ys with
    | nil => exact ⟨_, .nil⟩
    | cons p ys ih =>
      obtain ⟨as, ih⟩ := ih
      exact ⟨_, .cons (.int _ p.2) ih⟩
  obtain ⟨ys, rfl, rfl⟩ := hv
  obtain ⟨as, r⟩ := this ys
  exact ⟨_, .list ha ho.cls hd (by simpa using r)⟩
theorem reads_prs {h : Heap} {a : Addr} {o : Obj} {Ts : List (Addr × Obj)} {vs : List Value} {ps : List (Nat × Nat)} (ha : h.get? a = some o) (ho : ListO o vs) (hv : Prs Ts vs ps) (hT : ∀ p ∈ Ts, h.get? p.1 = some p.2) : ∃ as, Reads h (.ref a) (dPrs ps) as := by
  obtain ⟨n, hd⟩ := ho.data
  have : ∀ (xs : List (Addr × Obj × (Nat × Nat))), (∀ a ∈ xs, (a.1, a.2.1) ∈ Ts ∧ PairO a.2.1 a.2.2) → ∃ as, ReadsAll h (xs.map fun a => .ref a.1) ((xs.map (fun a => a.2.2)).map fun p => PyData.tuple [.int (p.1 : Int), .int (p.2 : Int)]) as := by
    intro xs hx
    induction xs with
    | nil => exact ⟨_, .nil⟩
    | cons p xs ih =>
      obtain ⟨as, ih⟩ := ih fun a ha => hx a (.tail _ ha)
      obtain ⟨hm, t, u, hto⟩ := hx p (.head _)
      obtain ⟨k, hk⟩ := hto.data
      exact ⟨_, .cons (.tuple (hT _ hm) hto.cls hk (.cons (.int _ t) (.cons (.int _ u) .nil))) ih⟩
  obtain ⟨xs, rfl, rfl, hx⟩ := hv
  obtain ⟨as, r⟩ := this xs hx
  exact ⟨_, .list ha ho.cls hd (by simpa using r)⟩
theorem reads_pair {h : Heap} {a : Addr} {o : Obj} {v1 v2 : Value} {d1 d2 : PyData} (ha : h.get? a = some o) (ho : TupO o [v1, v2]) (h1 : ∃ as, Reads h v1 d1 as) (h2 : ∃ as, Reads h v2 d2 as) : ∃ as, Reads h (.ref a) (.tuple [d1, d2]) as := by
  obtain ⟨as, h1⟩ := h1
  obtain ⟨bs, h2⟩ := h2
  obtain ⟨n, hd⟩ := ho.data
  exact ⟨_, .tuple ha ho.cls hd (.cons h1 (.cons h2 .nil))⟩
theorem reads_str {h : Heap} (y : Str) (t : Tok) : ∃ as, Reads h (.str y t) (dStr (tl y)) as := by
  have : dStr (tl y) = .str y := by simp [dStr, tl]
  rw [this]
  exact ⟨_, .str y t⟩

theorem dStr_ok {l : List Nat} (h : ∀ c ∈ l, c < 1114112) : (dStr l).canLay0 = true ∧ (dStr l).depth = 0 := by
  refine ⟨?_, rfl⟩
  show PyData.strOk ⟨l.toArray⟩ = true
  unfold PyData.strOk
  rw [← Array.all_toList]
  exact List.all_eq_true.mpr fun c hc => decide_eq_true (h c (by simpa using hc))
theorem all_ok {ds : List PyData} {k : Nat} (h : ∀ d ∈ ds, d.canLay0 = true ∧ d.depth ≤ k) : PyData.canLayAll0 ds = true ∧ PyData.depthAll ds ≤ k := by
  induction ds with
  | nil => exact ⟨rfl, Nat.zero_le _⟩
  | cons d ds ih =>
    obtain ⟨h1, h2⟩ := ih fun e he => h e (.tail _ he)
    obtain ⟨h3, h4⟩ := h d (.head _)
    exact ⟨by simp [PyData.canLayAll0, h1, h3], by simp only [PyData.depthAll]; omega⟩
theorem dStrs_ok {bs : List (List Nat)} (h : small3 bs) : (dStrs bs).canLay0 = true ∧ (dStrs bs).depth ≤ 5 := by
  have := all_ok (ds := bs.map dStr) (k := 0) fun d hd => by
    obtain ⟨b, hb, rfl⟩ := List.mem_map.mp hd
    exact ⟨(dStr_ok (h b hb)).1, Nat.le_of_eq (dStr_ok (h b hb)).2⟩
  exact ⟨this.1, by simp only [dStrs, PyData.depth]; omega⟩
theorem dNums_ok (ns : List Nat) : (dNums ns).canLay0 = true ∧ (dNums ns).depth ≤ 5 := by
  have := all_ok (ds := ns.map fun (n : Nat) => PyData.int (n : Int)) (k := 0) fun d hd => by
    obtain ⟨b, hb, rfl⟩ := List.mem_map.mp hd
    exact ⟨rfl, Nat.le_refl _⟩
  exact ⟨this.1, by simp only [dNums, PyData.depth]; omega⟩
theorem dPrs_ok (ps : List (Nat × Nat)) : (dPrs ps).canLay0 = true ∧ (dPrs ps).depth ≤ 5 := by
  have := all_ok (ds := ps.map fun p => PyData.tuple [.int (p.1 : Int), .int (p.2 : Int)]) (k := 1) fun d hd => by
    obtain ⟨b, hb, rfl⟩ := List.mem_map.mp hd
    exact ⟨rfl, Nat.le_refl _⟩
  exact ⟨this.1, by simp only [dPrs, PyData.depth]; omega⟩
theorem dPair_ok {d1 d2 : PyData} (h1 : d1.canLay0 = true ∧ d1.depth ≤ 5) (h2 : d2.canLay0 = true ∧ d2.depth ≤ 5) : (PyData.tuple [d1, d2]).canLay0 = true ∧ (PyData.tuple [d1, d2]).depth ≤ 6 := by
  have := all_ok (ds := [d1, d2]) (k := 5) (by
    intro d hd
    simp only [List.mem_cons, List.not_mem_nil, or_false] at hd
    rcases hd with rfl | rfl
    · exact h1
    · exact h2)
  exact ⟨this.1, by simp only [PyData.depth] at this ⊢; omega⟩
theorem shaped_of {d : PyData} (h : d.canLay0 = true ∧ d.depth ≤ 6) : PySem.SeqAt.shaped d = true := by
  unfold PySem.SeqAt.shaped
  rw [h.1, Bool.true_and]
  exact decide_eq_true (Nat.le_trans h.2 (by decide))

theorem Room.units64 {A : Around} {d : Nat} (h : Room A (d + 8)) : A.units + 64 < cLine := by have := h.2.2; omega

section
variable {w : World} {A : Around} {E : Value → Shared → Prop} {s : Shared} {prog : Program} {Q : Value → Shared → Prop}
theorem r_ne_same {a b : Value} {d : PyData} (ha : ∃ as, Reads s.heap a d as) (hb : ∃ as, Reads s.heap b d as) (hd : d.canLay0 = true ∧ d.depth ≤ 6) (hu : A.units + 64 < cLine) (g : Q (.bool false) s) :
    wpAny (model prog w) A (compareOp .NotEq a b) Q E s := by
  obtain ⟨as, ha⟩ := ha
  obtain ⟨bs, hb⟩ := hb
  refine ne_dataH ha hb (shaped_of hd) (shaped_of hd) hu ?_
  rw [SeqAt.eqv_refl d hd.1]
  exact g
theorem r_list_last {s₀ sr : Shared} {L : Addr} {m : Str → Option Value} {D : List (Addr × Obj)} {W : List Addr} {l : Addr} {o : Obj} {vs : List Value} {u : Tok} {x : Value} {value slice : Expr} (h : Loc w s₀ L m D W sr s) (hl : (l, o) ∈ D) (ho : ListO o (vs ++ [x])) (g : Q x s)
    (hs : subscripted slice false (.ref l) (.int (-1) u) = operate [.ref l, .int (-1) u] (getItem (.ref l) (.int (-1) u)) := by with_unfolding_all rfl) :
    wpAny (model prog w) A (subscriptTail value slice (.ref l) (.int (-1) u)) Q E s := by
  have hsz : (vs ++ [x]).toArray.size = vs.length + 1 := by simp
  refine tail_any (ho.is (h.get hl)).typeIs slot_list_getitem.lookup (wpAny_getItem_list_neg (x := x) (ho.is (h.get hl)) (by decide) (by rw [hsz]; omega) (by decide) ?_ g) hs
  rw [hsz, show ((-1 : Int) + ((vs.length + 1 : Nat) : Int)).toNat = vs.length by omega]
  simp
theorem Prs.split {Ts : List (Addr × Obj)} {vs : List Value} {ps : List (Nat × Nat)} (h : Prs Ts vs ps) (hne : ps ≠ []) : ∃ vs' T o ps' p, vs = vs' ++ [.ref T] ∧ ps = ps' ++ [p] ∧ (T, o) ∈ Ts ∧ PairO o p := by
  obtain ⟨as, rfl, rfl, h3⟩ := h
  rcases List.eq_nil_or_concat as with rfl | ⟨as', a, rfl⟩
  · exact absurd rfl hne
  · obtain ⟨h4, h5⟩ := h3 a (by simp)
    exact ⟨as'.map (fun a => .ref a.1), a.1, a.2.1, as'.map (fun a => a.2.2), a.2.2, by simp, by simp, h4, h5⟩
theorem r_ne_nil {a b : Value} {ps : List (Nat × Nat)} (ha : ∃ as, Reads s.heap a (dPrs ps) as) (hb : ∃ as, Reads s.heap b (dPrs []) as) (hu : A.units + 64 < cLine) (g : Q (.bool (!ps.isEmpty)) s) :
    wpAny (model prog w) A (compareOp .NotEq a b) Q E s := by
  obtain ⟨as, ha⟩ := ha
  obtain ⟨bs, hb⟩ := hb
  have h1 := dPrs_ok ps
  have h2 := dPrs_ok []
  refine ne_dataH ha hb (shaped_of ⟨h1.1, by omega⟩) (shaped_of ⟨h2.1, by omega⟩) hu ?_
  have : PyData.eqv (dPrs ps) (dPrs []) = ps.isEmpty := by
    cases ps <;> simp [dPrs, PyData.eqv, PyData.eqvAll]
  rw [this]
  exact g
end

abbrev RS := List (List Nat) × List (Nat × Nat)
def segL (bs : List (List Nat)) (a b : Nat) : List (List Nat) := (bs.drop a).take (b - a)
def turnL (bs : List (List Nat)) : List (List Nat) := splitL [124] 0 (replsF [([40], [42]), ([41], [40]), ([42], [41])] (joinL [124] bs))
def exInner (bs : List (List Nat)) (start : Nat) : Nat → Nat → RS → RS
  | 0, _, σ => σ
  | k + 1, e, σ => if checkF (segL bs start e).flatten then (σ.1.take start ++ turnL (segL bs start e) ++ σ.1.drop e, σ.2 ++ [(start, e)]) else exInner bs start k (e + 2) σ
def exSkip (bs : List (List Nat)) (start : Nat) (sts : List (Nat × Nat)) : Bool :=
  decide ((bs.getD start []).headD 0 = 41) || (!sts.isEmpty && decide (start < (sts.getLastD (0, 0)).2))
def exStep (bs : List (List Nat)) (σ : RS) (start : Nat) : RS := if exSkip bs start σ.2 then σ else exInner bs start ((bs.length + 1 - (start + 2) + 1) / 2) (start + 2) σ
def exRun (bs : List (List Nat)) : Nat → Nat → RS → RS
  | 0, _, σ => σ
  | k + 1, i, σ => exRun bs k (i + 1) (exStep bs σ i)
def exchF (bs : List (List Nat)) : RS := exRun bs bs.length 0 (bs, [])

/-- what stands, between two turns -/
structure ExS (l : Addr) (ol : Obj) (S : Addr) (σ : RS) (m : Str → Option Value) (D : List (Addr × Obj)) : Prop where
  ex : ∃ r or os Ts vr vs, D = (S, os) :: (r, or) :: (l, ol) :: Ts ∧ ListO or vr ∧ LstO os vs ∧ Strs vr σ.1 ∧ Prs Ts vs σ.2 ∧ (∀ p ∈ Ts, p.1 ≠ S ∧ ∃ q, PairO p.2 q) ∧ r ≠ S ∧
    m (Str.ofString "row") = some (.ref r) ∧ m (Str.ofString "stretches") = some (.ref S) ∧ m (Str.ofString "boxes") = some (.ref l)
structure ExJ (bs : List (List Nat)) (l : Addr) (ol : Obj) (S : Addr) (i : Nat) (m : Str → Option Value) (D : List (Addr × Obj)) : Prop where
  ex : ∃ σ, ExS l ol S σ m D ∧ exRun bs (bs.length - i) i σ = exchF bs ∧ σ.1.length ≤ 100 + 2000 * i ∧ σ.2.length ≤ i ∧ i ≤ bs.length
structure ExI (bs : List (List Nat)) (l : Addr) (ol : Obj) (S : Addr) (σ : RS) (start : Nat) (ts : Tok) (k : Nat) (m : Str → Option Value) (D : List (Addr × Obj)) : Prop where
  ex : ExS l ol S σ m D ∧ m (Str.ofString "start") = some (.int (start : Nat) ts) ∧ exInner bs start ((bs.length + 1 - (start + 2) + 1) / 2 - k) (start + 2 + 2 * k) σ = exStep bs σ start

theorem segL_len (bs : List (List Nat)) (a b : Nat) : (segL bs a b).length ≤ b - a ∧ (segL bs a b).length ≤ bs.length := by
  unfold segL
  rw [List.length_take, List.length_drop]
  omega
theorem segL_mem {bs : List (List Nat)} {a b : Nat} {x : List Nat} (h : x ∈ segL bs a b) : x ∈ bs := List.mem_of_mem_drop (List.mem_of_mem_take h)
theorem joinL_len1 (z : List Nat) (hz : z.length ≤ 1) : ∀ bs : List (List Nat), (∀ b ∈ bs, b.length ≤ 20) → (joinL z bs).length ≤ bs.length * 21
  | [], _ => by simp [joinL]
  | [x], h => by have := h x (.head _); simp [joinL]; omega
  | x :: y :: r, h => by
    have h1 := h x (.head _)
    have ih := joinL_len1 z hz (y :: r) fun b hb => h b (.tail _ hb)
    rw [joinL_cons]
    simp only [List.length_append, List.length_cons] at ih ⊢
    omega

set_option maxHeartbeats 4000000 in
theorem exInner_ok {w : World} {A : Around} {s sr s11 : Shared} {L : Addr} {m : Str → Option Value} {D : List (Addr × Obj)} {l S : Addr} {ol : Obj} {vl : List Value} {bs : List (List Nat)} {σ : RS} {start : Nat} {ts : Tok} {Q : Flow → Shared → Prop} (R : Room A 9)
    (hol : ListO ol vl) (hvl : Strs vl bs) (hn : bs.length ≤ 60) (hb : ∀ b ∈ bs, 1 ≤ b.length ∧ b.length ≤ 20) (hS0 : s.heap.get? S = none) (hlS : l ≠ S)
    (h : Loc w s L m D [S] sr s11) (hE : ExS l ol S σ m D) (hst : m (Str.ofString "start") = some (.int (start : Nat) ts)) (hstart : start < bs.length) (hrl : σ.1.length ≤ 1000000) (hsl : σ.2.length ≤ 1000)
    (g : ∀ σ' m' D' s3, σ' = exInner bs start ((bs.length + 1 - (start + 2) + 1) / 2) (start + 2) σ → ExS l ol S σ' m' D' → σ'.1.length ≤ σ.1.length + 2000 → σ'.2.length ≤ σ.2.length + 1 → Loc w s L m' D' [S] sr s3 → Q .next s3) :
    wpAny (model Challenge.rw_pm0006_01.row.prog w) A (exec (stAt (forB (stAt (pmBody 10) 1)) 1) (envOf (Str.ofString "_law_exchanged") (pmScope 10) L 68 (.ref 67))) Q FF s11 := by
  obtain ⟨r, or, os, Ts, vr, vs, rfl, hor, hos, hvr, hprs, hTs, hrS, mrow, mst, mbo⟩ := hE
  show wpAny _ _ (exec (.For _ _ _ _ _) _) _ _ _
  refine wpAny_For ?_
  walk_at "pms"
  rename Loc _ _ _ _ _ _ _ _ => h8
  refine r_len_list h8 (by walk_at "mem") hol (by rw [hvl.len, sizeLine_eq]; omega) fun tn s9 h9 => ?_
  walk_at "pms"
  rename_i t1 s10 h10
  rw [show (start : Int) + 2 = ((start + 2 : Nat) : Int) by omega, show (vl.length : Int) + 1 = ((bs.length + 1 : Nat) : Int) by rw [hvl.len]; omega]
  rename_i t2 _ _ _ _ t3 _ _
  refine call_range_3 (by decide) ?_ (.inl (PyProof.noPylong_small (by omega)))
  have h11 := h10.grow { cls := .type "range", data := .fields #[.int ((start + 2 : Nat) : Int) t2, .int ((bs.length + 1 : Nat) : Int) t3, .int 2 t1] } s10.toks
  have hSs : S < s10.heap.objs.size := h10.lt _ (.head _)
  refine range_loop (r := s10.heap.objs.size) (W := [S]) (fun k m' D' => D' = (S, os) :: (r, or) :: (l, ol) :: Ts ∧ m' (Str.ofString "row") = some (.ref r) ∧ m' (Str.ofString "stretches") = some (.ref S) ∧ m' (Str.ofString "boxes") = some (.ref l) ∧ m' (Str.ofString "start") = some (.int (start : Nat) ts) ∧
      exInner bs start ((bs.length + 1 - (start + 2) + 1) / 2 - k) (start + 2 + 2 * k) σ = exInner bs start ((bs.length + 1 - (start + 2) + 1) / 2) (start + 2) σ) ((bs.length + 1 - (start + 2) + 1) / 2) R.1 (Heap.get?_push_size s10.heap rfl) (range_small2 (by omega) (by omega)) range_size2 ?_ ?_ ?_ ?_ ⟨rfl, mrow, mst, mbo, hst, rfl⟩ h11
  · intro b hb
    rw [List.mem_singleton.mp hb]
    exact Nat.lt_of_lt_of_le hSs (by simp [Heap.push])
  · rintro k m' D' ⟨rfl, -⟩ p hp
    simp only [List.mem_cons] at hp
    rcases hp with rfl | rfl | rfl | hp
    · exact hos.seq
    · exact hor.seq
    · exact hol.seq
    · exact (hTs p hp).2.elim fun q hq => hq.seq
  · rintro k tk m D s12 hk ⟨rfl, mrow, mst, mbo, hst, hrun⟩ h12 back
    rw [show ((start + 2 : Nat) : Int) + (k : Int) * 2 = ((start + 2 + 2 * k : Nat) : Int) by omega] at h12
    obtain ⟨j, hj⟩ : ∃ j, (bs.length + 1 - (start + 2) + 1) / 2 - k = j + 1 := ⟨(bs.length + 1 - (start + 2) + 1) / 2 - k - 1, by omega⟩
    have hjk : (bs.length + 1 - (start + 2) + 1) / 2 - (k + 1) = j := by omega
    have hele : start + 2 + 2 * k ≤ bs.length := by omega
    generalize hedef : start + 2 + 2 * k = e at h12 hrun hele
    rw [hj] at hrun
    have hseg := segL_len bs start e
    have hsegm : ∀ b ∈ segL bs start e, b.length ≤ 20 := fun b hb' => (hb b (segL_mem hb')).2
    walk_at "pms"
    refine r_list_slice (by assumption) (by walk_at "mem") hol (.int _ _) (.int _ _) .none (by decide) (by rw [hvl.len, sizeLine_eq]; omega) ?_
    intro P oP s13 hoP hPd hP0 h13
    have hvP := strs_mid hvl start e hele (by omega)
    walk_at "pms"
    show wpAny _ _ (call (.builtin "str.join") [.str _ _, .ref P]) _ _ _
    refine r_joinS h13 (.head _) hoP hvP (by decide) (by have := hseg.2; unfold segL at this; omega) (fun b hb' => by have := hsegm b hb'; omega) fun y ty s14 hy h14 => ?_
    rw [show tl (Str.ofString "") = [] by decide, joinL_nil] at hy
    replace hy : tl y = (segL bs start e).flatten := hy
    have hyl : y.length ≤ 2000 := by
      have := flatten_len hsegm
      rw [← hy, tl_len] at this
      omega
    walk_at "pms"
    refine r_callRef (by assumption) rfl ?_
    refine check_ok h14.toBase (R.mono (by decide)) hyl fun s15 hc15 => ?_
    have h15 := h14.calm hc15
    rw [hy]
    walk_at "pms"
    cases hck : checkF (segL bs start e).flatten with
    | false =>
      rw [show (false == true) = false from rfl]
      walk_at "pms"
      rename Loc _ _ _ _ _ _ _ _ => h16
      refine ⟨_, _, ?_, h16.sub (D' := (S, os) :: (r, or) :: (l, ol) :: Ts) fun p hp => .tail _ hp⟩
      refine ⟨rfl, by walk_at "lk", by walk_at "lk", by walk_at "lk", by walk_at "lk", ?_⟩
      rw [← hrun, hjk, show start + 2 + 2 * (k + 1) = e + 2 by omega]
      simp [exInner, hck]
    | true =>
      rw [show (true == true) = true from rfl]
      walk_at "pms"
      refine r_list_slice (by assumption) (by walk_at "mem") hol (.int _ _) (.int _ _) .none (by decide) (by rw [hvl.len, sizeLine_eq]; omega) ?_
      intro P2 oP2 s17 hoP2 hP2d hP20 h17
      walk_at "pms"
      show wpAny _ _ (call (.builtin "str.join") [.str _ _, .ref P2]) _ _ _
      refine r_joinS h17 (.head _) hoP2 hvP (by decide) (by have := hseg.2; unfold segL at this; omega) (fun b hb' => by have := hsegm b hb'; omega) fun y2 ty2 s18 hy2 h18 => ?_
      rw [show tl (Str.ofString "|") = [124] by decide] at hy2
      replace hy2 : tl y2 = joinL [124] (segL bs start e) := hy2
      have hyl2 : y2.length ≤ 1300 := by
        have := joinL_len1 [124] (by decide) _ hsegm
        rw [← hy2, tl_len] at this
        omega
      walk_at "pms"
      refine r_callRef (by assumption) rfl ?_
      rename Loc _ _ _ _ _ _ _ _ => h19
      show wpAny _ _ (call (.ref 21) (.str y2 ty2 :: flatP [((Str.ofString "(", _), (Str.ofString "*", _)), ((Str.ofString ")", _), (Str.ofString "(", _)), ((Str.ofString "*", _), (Str.ofString ")", _))])) _ _ _
      refine replace_ok _ h19.toBase (R.mono (by decide)) (by omega) (by
        intro p hp
        simp only [List.mem_cons, List.not_mem_nil, or_false] at hp
        rcases hp with rfl | rfl | rfl <;> (show 1 ≤ (Str.ofString _).length ∧ Builtin.Str.strKind (Str.ofString _) = 1 ∧ (Str.ofString _).length ≤ 1; decide +kernel)) (.inr rfl) fun z tz s20 hz hc20 => ?_
      have h20 := h19.calm hc20
      replace hz : tl z = replsF [([40], [42]), ([41], [40]), ([42], [41])] (joinL [124] (segL bs start e)) := by
        rw [hz, hy2]
        rfl
      have hzl : z.length ≤ 1300 := by
        have h1 := replsF_len (ps := [([40], [42]), ([41], [40]), ([42], [41])]) (by
          intro p hp
          simp only [List.mem_cons, List.not_mem_nil, or_false] at hp
          rcases hp with rfl | rfl | rfl <;> exact Nat.le_refl _) (joinL [124] (segL bs start e))
        rw [← hz, ← hy2, tl_len, tl_len] at h1
        omega
      walk_at "pms"
      show wpAny _ _ (call (.builtin "str.split") [.str _ _, .str _ _]) _ _ _
      refine r_split (by assumption) (by decide) (by rw [sizeLine_eq]; omega) fun T oT ll s21 hoT hll hTL h21 => ?_
      have hvT : Strs (strValues ll) (turnL (segL bs start e)) := ⟨ll, rfl, by
        have := split_tl z (Str.ofString "|") (by decide) (by decide +kernel)
        rw [show tl (Str.ofString "|") = [124] by decide, hz] at this
        unfold turnL
        rw [← this, ← hll, List.map_map]
        rfl⟩
      have htl : (turnL (segL bs start e)).length ≤ 1301 := by
        unfold turnL
        rw [← hz]
        have := (splitL_len [124] 0 (tl z)).1
        rw [tl_len] at this
        omega
      walk_at "pms"
      have hvrl := hvr.len
      have hsz1 := (strs_takeU hvr start).len
      have hsz2 := (strs_dropU hvr e).len
      rw [List.length_take] at hsz1
      rw [List.length_drop] at hsz2
      have htll := hvT.len
      refine r_list_slice (by assumption) (by walk_at "mem") hor .none (.int _ _) .none (by decide) (by rw [sizeLine_eq]; omega) ?_
      intro R1 oR1 s22 hoR1 hR1d hR10 h22
      walk_at "pm"
      refine r_add_list h22 (.head _) hoR1 (.tail _ (.head _)) hoT (by rw [sizeLine_eq]; omega) fun R2 oR2 s23 hoR2 hR2d hR20 h23 => ?_
      walk_at "pms"
      refine r_list_slice (by assumption) (by walk_at "mem") hor (.int _ _) .none .none (by decide) (by rw [sizeLine_eq]; omega) ?_
      intro R3 oR3 s24 hoR3 hR3d hR30 h24
      refine r_add_list h24 (.tail _ (.head _)) hoR2 (.head _) hoR3 (by rw [List.length_append, sizeLine_eq]; omega) fun R4 oR4 s25 hoR4 hR4d hR40 h25 => ?_
      walk_at "pms"
      rename_i T5 oT5 s26 hT5 hT5d h26
      show wpAny _ _ (call (.builtin "list.append") [.ref S, .ref T5]) _ _ _
      have hSP : S ≠ R4 := hR4d _ (by walk_at "mem" : (S, os) ∈ _)
      have hST : S ≠ T5 := hT5d _ (by walk_at "mem" : (S, os) ∈ _)
      refine r_append (D := (R4, oR4) :: (l, ol) :: (T5, oT5) :: Ts) (h26.sub (by
        intro p hp
        simp only [List.mem_cons] at hp ⊢
        rcases hp with rfl | rfl | rfl | rfl | hp
        · exact .inr (.inr (.inr (.inr (.inr (.inr (.inr (.inr (.inl rfl))))))))
        · exact .inr (.inl rfl)
        · exact .inr (.inr (.inr (.inr (.inr (.inr (.inr (.inr (.inr (.inr (.inl rfl))))))))))
        · exact .inl rfl
        · exact .inr (.inr (.inr (.inr (.inr (.inr (.inr (.inr (.inr (.inr (.inr hp)))))))))))) hos (.head _) hS0 (by
        intro p hp
        simp only [List.mem_cons] at hp
        rcases hp with rfl | rfl | rfl | hp
        · exact Ne.symm hSP
        · exact hlS
        · exact Ne.symm hST
        · exact (hTs p hp).1) (by rw [hprs.len, sizeLine_eq]; omega) fun os' s27 hos' h27 => ?_
      walk_at "pms"
      rename Loc _ _ _ _ _ _ _ _ => h28
      have hex : exInner bs start ((bs.length + 1 - (start + 2) + 1) / 2) (start + 2) σ = (σ.1.take start ++ turnL (segL bs start e) ++ σ.1.drop e, σ.2 ++ [(start, e)]) := by
        rw [← hrun]
        simp [exInner, hck]
      refine g _ _ _ _ rfl ?_ ?_ ?_ (back _ _ _ h28)
      · rw [hex]
        exact ⟨R4, oR4, os', (T5, oT5) :: Ts, _, _, rfl, hoR4, hos', ((strs_takeU hvr start).append hvT).append (strs_dropU hvr e), hprs.snoc ⟨_, _, hT5⟩, (by
          intro p hp
          rcases List.mem_cons.mp hp with rfl | hp
          · exact ⟨Ne.symm hST, (start, e), _, _, hT5⟩
          · exact hTs p hp), Ne.symm hSP, by walk_at "lk", by walk_at "lk", by walk_at "lk"⟩
      · rw [hex]
        simp only [List.length_append, List.length_take, List.length_drop]
        omega
      · rw [hex]
        simp
  · rintro m D s12 ⟨rfl, mrow, mst, mbo, hst, hrun⟩ h12
    refine g σ m _ s12 ?_ ⟨r, or, os, Ts, vr, vs, rfl, hor, hos, hvr, hprs, hTs, hrS, mrow, mst, mbo⟩ (by omega) (by omega) h12
    rw [← hrun, Nat.sub_self]
    rfl

set_option maxHeartbeats 4000000 in
theorem exchanged_ok {w : World} {A : Around} {E : Value → Shared → Prop} {s : Shared} {l : Addr} {ol : Obj} {vl : List Value} {bs : List (List Nat)} {Q : Value → Shared → Prop} (B : Base w s) (R : Room A 10)
    (hl : s.heap.get? l = some ol) (hol : ListO ol vl) (hvl : Strs vl bs) (hn : bs.length ≤ 60) (hb : ∀ b ∈ bs, 1 ≤ b.length ∧ b.length ≤ 20)
    (g : ∀ T oT r or S os Ts vr vs s', Calm s s' → TupO oT [.ref r, .ref S] → ListO or vr → ListO os vs → Strs vr (exchF bs).1 → Prs Ts vs (exchF bs).2 →
      (∀ p ∈ Ts, ∃ q, PairO p.2 q) → (∀ p ∈ (T, oT) :: (r, or) :: (S, os) :: Ts, s'.heap.get? p.1 = some p.2) → Q (.ref T) s') :
    wpAny (model Challenge.rw_pm0006_01.row.prog w) A (call (.ref 68) [.ref l]) Q E s := by
  refine enter (d := 9) (binds := [(Str.ofString "boxes", .ref l)]) B (R.mono (by decide)) rfl (by kernel_rfl) rfl (locs rfl) fun L s1 h => ?_
  have hl1 : s1.heap.get? l = some ol := h.fr.keep _ _ hl
  have hne : l ≠ L := hol.data.elim fun n e => seq_ne h.fr.ns hl1 e
  replace h := h.add hl1 hne
  obtain ⟨nl, hdl⟩ := hol.data
  walk_at "pms"
  refine Assign_Tuple_swapped (names := [Str.ofString "row", Str.ofString "stretches"]) ?_
  walk_at "pms"
  refine call_list_seq l (.inl rfl) (Loc.get (by assumption) (.head _)) hol.cls hdl (fun h' c' hk hr => ?_) (by rw [List.size_toArray, hvl.len, sizeLine_eq]; omega)
  rename Loc _ _ _ _ _ _ _ _ => h2
  have h2' := h2.calm (calm_heap (k := s1.toks) hk)
  have h3 := h2'.add hr (seq_ne h2'.fr.ns hr rfl)
  have hor0 : ListO { cls := .type "list", data := .seq vl.toArray c' } vl := ⟨rfl, _, rfl⟩
  generalize ({ cls := .type "list", data := .seq vl.toArray c' } : Obj) = or0 at h3 hor0
  have hr0n : s.heap.get? s1.heap.objs.size = none := h2.new0 (Nat.le_refl _)
  generalize s1.heap.objs.size = r0 at h3 hr0n ⊢
  walk_at "pms"
  rename_i S os _ hos hdS hS0 hSL _ T oT s4 hT hdT h4
  refine r_swapped2 h4 R.1 (.head _) hT fun s5 h5 => ?_
  have hlS : l ≠ S := fun q => by rw [q, hS0] at hl; cases hl
  have hrS : r0 ≠ S := fun q => hdS _ (.head _) q
  walk_at "pms"
  refine wpAny_For ?_
  walk_at "pms"
  rename Loc _ _ _ _ _ _ _ _ => h8
  refine r_len_list h8 (by walk_at "mem") hol (by rw [hvl.len, sizeLine_eq]; omega) fun tn s9 h9 => ?_
  walk_at "pms"
  refine call_range_1 ?_
  have h10 := h9.grow { cls := .type "range", data := .fields #[.int 0 s9.toks, .int vl.length tn, .int 1 (s9.toks + 1)] } (s9.toks + 1 + 1)
  have hSs : S < s9.heap.objs.size := h9.lt _ (by walk_at "mem" : (S, os) ∈ _)
  refine range_loop (r := s9.heap.objs.size) (a := ((0 : Nat) : Int)) (W := [S]) (ExJ bs l ol S) bs.length R.1 (Heap.get?_push_size s9.heap rfl) (range_small1 (by decide) (by rw [hvl.len]; omega)) (by rw [range_size1, hvl.len]; rfl) ?_ ?_ ?_ ?_
    ⟨(bs, []), ⟨r0, or0, os, [], vl, [], rfl, hor0, hos, hvl, Prs.nil, fun p hp => (nomatch hp), hrS, by walk_at "lk", by walk_at "lk", rfl⟩, rfl, by simp; omega, Nat.le_refl _, Nat.zero_le _⟩ ((h10.weakW (fun _ q => nomatch q)).sub (D' := [(S, os), (r0, or0), (l, ol)]) ?_)
  · intro b hb
    rw [List.mem_singleton.mp hb]
    exact Nat.lt_of_lt_of_le hSs (by simp [Heap.push])
  · rintro i m D ⟨σ, ⟨r, or, os, Ts, vr, vs, rfl, hor, hos, hvr, hprs, hTs, -⟩, -⟩ p hp
    simp only [List.mem_cons] at hp
    rcases hp with rfl | rfl | rfl | hp
    · exact hos.seq
    · exact hor.seq
    · exact hol.seq
    · exact (hTs p hp).2.elim fun q hq => hq.seq
  · rintro i tk m D s11 hi ⟨σ, ⟨r, or, os, Ts, vr, vs, rfl, hor, hos, hvr, hprs, hTs, hrS, mrow, mst, mbo⟩, hrun, hrl, hsl, -⟩ h11 back
    rw [show ((0 : Nat) : Int) + (i : Int) * 1 = (i : Int) by omega] at h11
    have hvi : vl[i]? = some (vl[i]'(by rw [hvl.len]; exact hi)) := List.getElem?_eq_getElem _
    generalize vl[i]'(by rw [hvl.len]; exact hi) = vi at hvi
    obtain ⟨y, u, rfl, hby⟩ := hvl.get hvi
    obtain ⟨hy1, hy2⟩ := hb (tl y) (List.mem_of_getElem? hby)
    rw [tl_len] at hy1 hy2
    obtain ⟨k, hk⟩ : ∃ k, bs.length - i = k + 1 := ⟨bs.length - i - 1, by omega⟩
    have hki : bs.length - (i + 1) = k := by omega
    rw [hk] at hrun
    replace hrun : exRun bs k (i + 1) (exStep bs σ i) = exchF bs := hrun
    have hgd : bs.getD i [] = tl y := by rw [List.getD_eq_getElem?_getD, hby]; rfl
    have hC : (Txt.item y 0 == Str.ofString ")") = decide ((bs.getD i []).headD 0 = 41) := by
      rw [str_eq, show tl (Str.ofString ")") = [41] by decide, item0 hy1, hgd]
      simp
    walk_at "pms"
    refine r_list_item (x := .str y u) (by assumption) (by walk_at "mem") hol (by omega) (by omega) (by rw [Int.toNat_natCast]; exact hvi) ?_
    walk_at "pms"
    refine r_str_item (by assumption) (by decide) (by omega) (by omega) ?_
    intro _ _ _
    walk_at "pms"
    rw [hC]
    have skip : ∀ {m' D' s3}, exSkip bs i σ.2 = true → ExS l ol S σ m' D' → Loc w s L m' D' [S] s11 s3 → ∃ m' D', ExJ bs l ol S (i + 1) m' D' ∧ Loc w s L m' D' [S] s11 s3 := fun {m' D' s3} hsk hE hL => by
      have e : exStep bs σ i = σ := by unfold exStep; rw [if_pos hsk]
      rw [e] at hrun
      exact ⟨m', D', ⟨σ, hE, by rw [hki]; exact hrun, by omega, by omega, hi⟩, hL⟩
    by_cases h41 : (bs.getD i []).headD 0 = 41
    · rw [decide_eq_true h41]
      walk_at "pms"
      rename Loc _ _ _ _ _ _ _ _ => h12
      exact skip (by simp [exSkip]; exact .inl (by simpa using h41)) ⟨r, or, os, Ts, vr, vs, rfl, hor, hos, hvr, hprs, hTs, hrS, by walk_at "lk", by walk_at "lk", by walk_at "lk"⟩ h12
    · rw [decide_eq_false h41]
      walk_at "pms"
      rename_i N oN s12 hoN hdN hN0 hNL h12
      refine r_ne_nil (reads_prs (h12.get (.tail _ (.head _))) hos.weak hprs (fun p hp => h12.get (.tail _ (.tail _ (.tail _ (.tail _ hp)))))) (reads_prs (Ts := []) (ps := []) (h12.get (.head _)) hoN.weak Prs.nil (fun p hp => nomatch hp)) (R.deeper.units64) ?_
      have fin2 : ∀ (σ' : RS) (m' : Str → Option Value) (D' : List (Addr × Obj)) (s3 : Shared), exSkip bs i σ.2 = false → σ' = exInner bs i ((bs.length + 1 - (i + 2) + 1) / 2) (i + 2) σ → ExS l ol S σ' m' D' → σ'.1.length ≤ σ.1.length + 2000 → σ'.2.length ≤ σ.2.length + 1 → Loc w s L m' D' [S] s11 s3 →
          ∃ m' D', ExJ bs l ol S (i + 1) m' D' ∧ Loc w s L m' D' [S] s11 s3 := fun σ' m' D' s3 hsk hσ hE h1 h2 hL => by
        have e : exStep bs σ i = σ' := by unfold exStep; rw [hsk, if_neg Bool.false_ne_true, hσ]
        rw [e] at hrun
        exact ⟨m', D', ⟨σ', hE, by rw [hki]; exact hrun, by omega, by omega, hi⟩, hL⟩
      have hE11 : ∀ {m' : Str → Option Value}, m' (Str.ofString "row") = some (.ref r) → m' (Str.ofString "stretches") = some (.ref S) → m' (Str.ofString "boxes") = some (.ref l) → ExS l ol S σ m' ((S, os) :: (r, or) :: (l, ol) :: Ts) := fun h1 h2 h3 =>
        ⟨r, or, os, Ts, vr, vs, rfl, hor, hos, hvr, hprs, hTs, hrS, h1, h2, h3⟩
      walk_at "pms"
      by_cases hne2 : σ.2 = []
      · have hsk : exSkip bs i σ.2 = false := by simp [exSkip, hne2]; simpa using h41
        rw [hne2, show (!([] : List (Nat × Nat)).isEmpty) = false from rfl]
        walk_at "pms"
        refine exInner_ok (R.deeper) hol hvl hn hb hS0 hlS (h12.sub fun p hp => .tail _ hp) (hE11 (by walk_at "lk") (by walk_at "lk") (by walk_at "lk")) (by walk_at "lk") hi (by omega) (by omega) fun σ' m' D' s3 hσ hE h1 h2 hL => ?_
        walk_at "pms"
        exact fin2 σ' m' D' s3 hsk hσ hE h1 h2 hL
      · obtain ⟨vs', T', o', ps', p, hvs, hps, hm', hp'⟩ := hprs.split hne2
        obtain ⟨q1, q2, hq⟩ := hp'
        rw [show (!σ.2.isEmpty) = true by cases h : σ.2 with
          | nil => exact absurd h hne2
          | cons _ _ => rfl]
        walk_at "pms"
        refine r_neg_int (by assumption) ?_
        intro _ _ _
        rw [hvs] at hos
        refine r_list_last (by assumption) (by walk_at "mem") hos.weak ?_
        walk_at "pms"
        refine r_tuple_item (x := .int (p.2 : Nat) q2) (by assumption) (.tail _ (.tail _ (.tail _ (.tail _ hm')))) hq (by decide) (by decide) rfl rfl ?_
        walk_at "pms"
        have hsk : exSkip bs i σ.2 = decide ((i : Int) < (p.2 : Int)) := by
          simp only [exSkip, hps, decide_eq_false h41, Bool.false_or]
          simp
        cases hd : decide ((i : Int) < (p.2 : Int)) with
        | true =>
          walk_at "pms"
          rename Loc _ _ _ _ _ _ _ _ => h13
          exact skip (by rw [hsk, hd]) (hE11 (by walk_at "lk") (by walk_at "lk") (by walk_at "lk")) (h13.sub fun p hp => .tail _ hp)
        | false =>
          walk_at "pms"
          rename Loc _ _ _ _ _ _ _ _ => h13
          refine exInner_ok (R.deeper) hol hvl hn hb hS0 hlS (h13.sub fun p hp => .tail _ hp) (hE11 (by walk_at "lk") (by walk_at "lk") (by walk_at "lk")) (by walk_at "lk") hi (by omega) (by omega) fun σ' m' D' s3 hσ hE h1 h2 hL => ?_
          walk_at "pms"
          exact fin2 σ' m' D' s3 (by rw [hsk, hd]) hσ hE h1 h2 hL
  · rintro m D s11 ⟨σ, ⟨r, or, os, Ts, vr, vs, rfl, hor, hos, hvr, hprs, hTs, hrS, mrow, mst, mbo⟩, hrun, hrl, hsl, -⟩ h11
    show wpAny _ _ (execs _ _) _ _ _
    walk_at "pms"
    rename_i T oT s15 hT hTd h15
    have e : exchF bs = σ := by rw [← hrun, Nat.sub_self]; rfl
    rw [e] at g
    refine g T oT r or S os Ts vr vs s15 h15.done hT hor hos.weak hvr hprs (fun p hp => (hTs p hp).2) fun p hp => (h15.led p ?_).1
    simp only [List.mem_cons] at hp ⊢
    rcases hp with rfl | rfl | rfl | hp
    · exact .inl rfl
    · exact .inr (.inr (.inl rfl))
    · exact .inr (.inl rfl)
    · exact .inr (.inr (.inr (.inr hp)))
  · intro p hp
    simp only [List.mem_cons, List.not_mem_nil, or_false] at hp ⊢
    rcases hp with rfl | rfl | rfl
    · exact .inr (.inl rfl)
    · exact .inr (.inr (.inl rfl))
    · exact .inr (.inr (.inr rfl))

section
variable {w : World} {A : Around} {E : Value → Shared → Prop} {s₀ sr s : Shared} {L : Addr} {m : Str → Option Value} {D : List (Addr × Obj)} {W : List Addr} {prog : Program} {Q : Value → Shared → Prop}
theorem r_mul_list {l : Addr} {o : Obj} {vs : List Value} {x : Int} {u : Tok} (h : Loc w s₀ L m D W sr s) (hm : (l, o) ∈ D) (hol : ListO o vs) (hlo : -(2 ^ 63 : Int) ≤ x) (hhi : x < 2 ^ 63) (hsz : vs.length * x.toNat ≤ 2 ^ 24)
    (g : ∀ r o' s', ListO o' (List.replicate x.toNat vs).flatten → (∀ p ∈ D, p.1 ≠ r) → s₀.heap.get? r = none → Loc w s₀ L m ((r, o') :: D) W sr s' → Q (.ref r) s') : wpAny (model prog w) A (binaryOp .Mult (.ref l) (.int x u)) Q E s := by
  obtain ⟨⟨cls, d, data, sl⟩, ho, hcl, k, hd⟩ := hol.is (h.get hm)
  simp only at hcl hd
  subst hcl hd
  have hsz' : vs.toArray.size * x.toNat ≤ 2 ^ 24 := by simpa using hsz
  refine wpAny_binaryOp_repeat_ref (T := "list") (U := "int") (by decide) ⟨_, ho, rfl⟩ (fun s' => typeIs_int s' x u) noFill_list_mul F.fills_int_mul F.slot_int_rmul repeat_list F.slot_int_index.lookup
    (call_meets F.slot_int_rmul (typeIs_int s x u) F.entry_int_rmul (F.args_int_rmul_2 _ _) (lm_int_rmul_list_any x u l vs.toArray k d sl)
      ⟨ho, rfl, ⟨_, ho, rfl⟩, call_meets F.slot_list_mul ⟨_, ho, rfl⟩ F.entry_list_mul (F.args_list_mul_2 _ _)
        (lm_list_mul_any l vs.toArray k d sl x u (by simp [Builtin.List.listFitsIndex]; omega) (by omega) (by simp [Builtin.List.listTooLong, sizeLine]; omega))
        ⟨ho, ?_⟩⟩)
  rw [listMul_foldl_if]
  exact g _ _ _ ⟨rfl, 0, rfl⟩ h.fresh1 h.fresh0 (h.push _ _)
theorem r_sum {l : Addr} {o : Obj} {vs : List Value} {ns : List Nat} (hh : A.handled = none) (h : Loc w s₀ L m D W sr s) (hm : (l, o) ∈ D) (hol : ListO o vs) (hv : Nums vs ns)
    (g : ∀ t s', Loc w s₀ L m D W sr s' → Q (.int (ns.sum : Nat) t) s') : wpAny (model prog w) A (call (.builtin "sum") [.ref l]) Q E s := by
  obtain ⟨ys, rfl, rfl⟩ := hv
  have hl := hol.is (h.get hm)
  have e : (ys.map fun p => Value.int (p.1 : Nat) p.2).toArray = intItems (ys.map fun p => ((p.1 : Int), p.2)).toArray := by
    unfold intItems
    simp [Function.comp_def]
  rw [e] at hl
  refine sum_intListG hh hl fun h' tk t' hk => ?_
  have e2 : preSum (numAt (ys.map fun p => ((p.1 : Int), p.2)).toArray) (ys.map fun p => ((p.1 : Int), p.2)).toArray.size = (((ys.map (·.1)).sum : Nat) : Int) := by
    rw [preSum_eq, List.take_of_length_le (by simp)]
    clear hl hol e g
    induction ys with
    | nil => rfl
    | cons y ys ih =>
      simp only [List.map_cons, List.sum_cons, Int.natCast_add] at ih ⊢
      rw [ih]
  rw [e2]
  exact g _ _ (h.calm (calm_heap hk))
theorem nums_take {vs : List Value} {ns : List Nat} (h : Nums vs ns) (b : Nat) (hb : b ≤ ns.length) : Nums (slicePick vs.toArray none (some (b : Int)) none).toList (ns.take b) := by
  have hl := h.len
  rw [slicePick_upto _ _ (by rw [List.size_toArray, hl]; exact hb)]
  obtain ⟨ys, rfl, rfl⟩ := h
  exact ⟨ys.take b, by simp, by rw [List.map_take]⟩
end

/-- what the plain law gives -/
def rowOf (k : Nat) (bs : List (List Nat)) : Car := carRun k car0 0 bs
structure Facts (bs : List (List Nat)) (B laid : Nat) : Prop where
  hB : B = (bs.filter isB).length
  hlaid : laid = ((rowOf B bs).row.filter isB).length
  len : bs.length ≤ 11
  bl : B ≤ 11
  ll : laid ≤ B ∧ laid + B ≤ bs.length
  boxes : ∀ b ∈ bs, 1 ≤ b.length ∧ b.length ≤ 20 ∧ ∀ c ∈ b, c < 1000
  asked : ∀ ahead behind : Nat, (ahead = 0 ∧ behind ≤ 1) ∨ (ahead = 1 ∧ behind = 0) → checkF ([34, 40, 34, 40, 41] ++ List.replicate (bs.length - B - laid + ahead) 40 ++ [41] ++ bs.flatten ++ [34, 92, 92] ++ List.replicate (B - laid) 41 ++ List.replicate behind 40 ++ [92]) = decide (ahead = 1)
  rest : (struckF (bs ++ List.replicate (3 * B) [41])).2 = List.replicate ((bs ++ List.replicate (3 * B) [41]).length - 2 * B) 41 ++ [34]
  rest2 : 2 * B ≤ (bs ++ List.replicate (3 * B) [41]).length
  told : ∀ room, 1 ≤ room → room ≤ (struckF (bs ++ List.replicate (3 * B) [41])).1.length → ((struckF (bs ++ List.replicate (3 * B) [41])).1.take room).sum = (rowOf room (bs ++ List.replicate (3 * B) [41])).taken
  toldn : (struckF (bs ++ List.replicate (3 * B) [41])).1.length ≤ 60
  ex0 : exchF (bs ++ List.replicate (3 * B) [41]) = ((rowOf B (bs ++ List.replicate (3 * B) [41])).row, (rowOf B (bs ++ List.replicate (3 * B) [41])).st)
  st1 : struckF (rowOf B (bs ++ List.replicate (3 * B) [41])).row = struckF (bs ++ List.replicate (3 * B) [41])
  ex1 : exchF (rowOf B (bs ++ List.replicate (3 * B) [41])).row = ((rowOf B (rowOf B (bs ++ List.replicate (3 * B) [41])).row).row, (rowOf B (rowOf B (bs ++ List.replicate (3 * B) [41])).row).st)
  st2 : struckF (rowOf B (rowOf B (bs ++ List.replicate (3 * B) [41])).row).row = struckF (bs ++ List.replicate (3 * B) [41])
  rv2 : (exchF (rowOf B (rowOf B (bs ++ List.replicate (3 * B) [41])).row).row.reverse).1.reverse = (rowOf B (bs ++ List.replicate (3 * B) [41])).row
  rv1 : (exchF (rowOf B (bs ++ List.replicate (3 * B) [41])).row.reverse).1.reverse = bs ++ List.replicate (3 * B) [41]

theorem ints_len : ∀ {vs : List Value} {ns : List Int}, IntsAre vs ns → vs.length = ns.length
  | _, _, .nil => rfl
  | _, _, .cons k t r => by rw [List.length_cons, List.length_cons, ints_len r]
theorem ints_get : ∀ {vs : List Value} {ns : List Int}, IntsAre vs ns → ∀ {i : Nat} {v : Value}, vs[i]? = some v → ∃ n t, v = .int n t ∧ ns[i]? = some n
  | _, _, .cons k t r, 0, v, h => by
    cases h
    exact ⟨k, t, rfl, rfl⟩
  | _, _, .cons k t r, i + 1, v, h => ints_get r h

section
variable {w : World} {A : Around} {E : Value → Shared → Prop} {s₀ sr s2 s' : Shared} {L C acc : Addr} {m mc : Str → Option Value} {D : List (Addr × Obj)} {W : List Addr} {prog : Program} {o : Obj} {vs : List Value} {name : Str} {scope : Scope} {f : Addr} {cd : Value}
theorem comp_loc (h2 : Loc w s₀ L m D W sr s2) (h3 : Loc w s2 C mc [(acc, o)] [acc] s' s') (ho : LstO o vs) : Loc w s₀ L m ((acc, o) :: D) W sr s' ∧ C ≠ L ∧ (∀ p ∈ (acc, o) :: D, p.1 ≠ C) := by
  have h4 := h2.calm h3.done
  have h5 := h4.add (h3.get (.head _)) (ho.seq.elim fun vs h => h.elim fun n e => seq_ne h4.fr.ns (h3.get (.head _)) e)
  refine ⟨h5, fun q => absurd (q ▸ h2.ltL) (Nat.not_lt_of_le h3.fr.above), fun p hp => ?_⟩
  rcases List.mem_cons.mp hp with rfl | hp
  · exact (h3.led _ (.head _)).2
  · exact Nat.ne_of_lt (Nat.lt_of_lt_of_le (h2.lt _ hp) h3.fr.above)
theorem comp_none {Q : Value → Shared → Prop} (h2 : Loc w s₀ L m D W sr s2) (hW : ∀ b ∈ W, b < s2.heap.objs.size) (h3 : Loc w s2 C mc [(acc, o)] [acc] s' s') (ho : LstO o vs) (g : ∀ s'', Loc w s₀ L m ((acc, o) :: D) W sr s'' → Q (.ref acc) s'') :
    compPost (model prog w) A E none Q (.ref acc) C (.ok .next) s' := by
  obtain ⟨h5, hCL, hD⟩ := comp_loc h2 h3 ho
  refine ⟨_, h3.fr.ns, fun h' hs => g _ ?_⟩
  exact h5.step (wr := [C]) (k := s'.toks) (fun b o hb e => (hs.2 b (fun q => hb (by rw [q]; exact .head _))).trans e) (fun q => hCL (List.mem_singleton.mp q).symm)
    (fun b hb => by rw [List.mem_singleton.mp hb]; exact h2.new0 h3.fr.above) (fun b hb => by rw [List.mem_singleton.mp hb]; exact h2.newsr hW h3.fr.above) (fun p hp q => hD p hp (List.mem_singleton.mp q))
theorem comp_use {Q : Value → Shared → Prop} {y : Str} {py : Pos} (h2 : Loc w s₀ L m D W sr s2) (hW : ∀ b ∈ W, b < s2.heap.objs.size) (h3 : Loc w s2 C mc [(acc, o)] [acc] s' s') (ho : LstO o vs)
    (g : ∀ s'', Loc w s₀ L (upd m y (.ref acc)) ((acc, o) :: D) W sr s'' → Q .none s'') (hk : scope.kind = .function := by rfl) (hl : (envOf name scope L f cd).kindOf y = some .local := by rfl) :
    compPost (model prog w) A E (some (assign (.Name y py) (envOf name scope L f cd))) Q (.ref acc) C (.ok .next) s' := by
  obtain ⟨h5, hCL, hD⟩ := comp_loc h2 h3 ho
  obtain ⟨oC, es, ep, hoC, hdC, r⟩ := h3.fr.ns
  refine wpAny_assign_Name (r_store (h5.add hoC hCL) (fun s'' h6 => ?_) hk hl)
  refine ⟨_, ⟨oC, es, ep, h6.get (.head _), hdC, r⟩, fun h' hs => g _ ?_⟩
  exact (h6.sub fun p hp => .tail _ hp).step (wr := [C]) (k := s''.toks) (fun b o hb e => (hs.2 b (fun q => hb (by rw [q]; exact .head _))).trans e) (fun q => hCL (List.mem_singleton.mp q).symm)
    (fun b hb => by rw [List.mem_singleton.mp hb]; exact h2.new0 h3.fr.above) (fun b hb => by rw [List.mem_singleton.mp hb]; exact h2.newsr hW h3.fr.above) (fun p hp q => hD p hp (List.mem_singleton.mp q))
end

def drawnL (ns : List Int) : List (List Nat) := (ns.take 5 ++ [0, 6, 3, 10, 9, 4]).map boxL

abbrev lawEnv (L fa : Addr) (cd : Value) : Env := envOf (Str.ofString "law") (pmScope 12) L fa cd

set_option maxHeartbeats 4000000 in
theorem law_draw {w : World} {A : Around} {s sr s1 : Shared} {L fa l : Addr} {cd : Value} {m : Str → Option Value} {vs : List Value} {ns : List Int} {Q : Flow → Shared → Prop} (R : Room A 11) (h : Loc w s L m [] [] sr s1)
    (hl : s1.heap.IsList l vs.toArray) (hI : IntsAre vs ns) (hn : vs.length ≤ 63) (hm : m (Str.ofString "script") = some (.ref l))
    (g : ∀ d od vd s2, LstO od vd → Strs vd (drawnL ns) → Loc w s L (upd m (Str.ofString "drawn") (.ref d)) [(d, od)] [] sr s2 → Q .next s2) :
    wpAny (model Challenge.rw_pm0006_01.row.prog w) A (exec (stAt (pmBody 12) 0) (lawEnv L fa cd)) Q FF s1 := by
  show wpAny _ _ (exec (.Assign _ _ _) _) _ _ _
  obtain ⟨ol, hol, h⟩ := h.addList hl
  refine r_AssignComp ?_
  walk_at "pms"
  refine r_list_slice (by assumption) (by walk_at "mem") hol .none (.int _ _) .none (by decide) (by rw [sizeLine_eq]; omega) ?_
  intro P oP s3 hoP hPd hP0 h3
  have hIP := slice_ints_uptoW hI (y := 5) (by decide)
  have hlP : (slicePick vs.toArray none (some 5) none).toList.length ≤ 63 := by
    exact Nat.le_trans (slicePick_size_le vs.toArray none (some 5) none) (by rw [List.size_toArray]; exact hn)
  walk_at "pms"
  rename_i t0 _ _ t1 _ _ t2 _ _ t3 _ _ t4 _ _ t5 _ _ N oN s4 hoN hNd hN0 hNL h4
  refine r_add_list h4 (.tail _ (.head _)) hoP (.head _) hoN.weak (by rw [sizeLine_eq]; simp only [List.length_cons, List.length_nil]; omega) fun G oG s5 hoG hGd hG0 h5 => ?_
  have hIG := hIP.append (IntsAre.cons 0 t0 (.cons 6 t1 (.cons 3 t2 (.cons 10 t3 (.cons 9 t4 (.cons 4 t5 .nil))))))
  rw [show (5 : Int).toNat = 5 from rfl] at hIG
  generalize (slicePick vs.toArray none (some 5) none).toList ++ _ = vg at hoG hIG
  have hGi := hoG.is (h5.get (.head _))
  have hGlt : G < s5.heap.objs.size := h5.lt _ (.head _)
  refine wpAny_pyIter_list hGi ?_
  have hc : Calm s5 { s5 with heap := s5.heap.push { cls := .type "list_iterator", data := .fields #[.ref G, .int 0 0] } } := calm_heap (k := s5.toks) fun b o e => Heap.get?_push_of_some _ e
  have hlt : s5.heap.objs.size < (s5.heap.push { cls := .type "list_iterator", data := .fields #[.ref G, .int 0 0] }).objs.size := by simp [Heap.push]
  have hgl0 : vg.length = (drawnL ns).length := by rw [ints_len hIG]; simp [drawnL]
  have hgl : vg.length ≤ 100 := by rw [hgl0]; simp [drawnL]; omega
  refine comp_block (s := s5) (fun i us => us.length ≤ i ∧ i ≤ vg.length ∧ Strs us ((drawnL ns).take i)) (Walks.list (by exact R.1) s5.heap.objs.size G (Nat.ne_of_lt hGlt) vg.toArray) ?_ ?_ ?_ h5.toBase hc (Nat.le_of_lt hlt) ⟨⟨_, Heap.get?_push_size _ rfl, rfl, rfl⟩, hGi.push _⟩ ?_ ?_ ?_ ⟨Nat.le_refl _, Nat.zero_le _, Strs.nil⟩
  · rintro i h ⟨⟨o, ho, _, hd⟩, _⟩ b hb
    rw [List.mem_singleton.mp hb]
    exact ⟨o, _, ho, hd⟩
  · intro b hb
    rcases List.mem_cons.mp hb with rfl | hb
    · exact hlt
    · rw [List.mem_singleton.mp hb]
      exact Nat.lt_trans hGlt hlt
  · intro b hb
    rw [List.mem_singleton.mp hb]
    exact get_new _
  · rintro i v m' o us C acc s6 hi hP ⟨hle, hix, hus⟩ ho hm' h6
    obtain ⟨n, tn, rfl, hni⟩ := ints_get hIG (by simpa using hP)
    refine wpAny_tests_nil ?_
    rw [if_pos rfl]
    walk_at "pms"
    refine r_callRef (by assumption) rfl ?_
    rename Loc _ _ _ _ _ _ _ _ => h7
    refine box_ok h7.toBase (R.mono (by decide)) fun y ty s8 hy hc8 => ⟨⟨by simp; omega, by simp at hi; omega, ?_⟩, h7.calm hc8⟩
    have e : (drawnL ns).take (i + 1) = (drawnL ns).take i ++ [tl y] := by
      rw [List.take_add_one]
      unfold drawnL
      rw [List.getElem?_map, hni, show tl y = boxL n from hy]
      rfl
    rw [e]
    exact hus.snoc _ _
  · rintro i us ⟨hle, hix, _⟩
    rw [sizeLine_eq]
    omega
  · rintro acc o us C m' s6 ⟨_, _, hus⟩ ho hacc h6
    refine comp_use h5 (fun b hb => nomatch hb) h6 ho fun s7 h7 => ?_
    rw [List.take_of_length_le (by rw [← hgl0, List.size_toArray]; exact Nat.le_refl _)] at hus
    exact g acc o us s7 ho hus (h7.sub fun p hp => by
      rw [List.mem_singleton.mp hp]
      exact .head _)

def scB : Scope := { kind := .function, names := [(Str.ofString ".0", .local), (Str.ofString "box", .local)], isGenerator := false, isCoroutine := false }

set_option maxHeartbeats 4000000 in
theorem filt_comp {w : World} {A : Around} {E : Value → Shared → Prop} {s₀ sr s : Shared} {L fa : Addr} {cd : Value} {m : Str → Option Value} {D : List (Addr × Obj)} {W : List Addr} {l : Addr} {ol : Obj} {vb : List Value} {bs : List (List Nat)} {Q : Value → Shared → Prop}
    {px p1 p2 p3 p4 p5 p6 pos : Pos} {iter : Expr} {k1 k2 : Nat} (hh : A.handled = none) (h : Loc w s₀ L m D W sr s) (hW : ∀ b ∈ W, b < s.heap.objs.size) (hm : (l, ol) ∈ D) (hol : ListO ol vb) (hvb : Strs vb bs) (hn : bs.length ≤ 60) (hb : ∀ b ∈ bs, 1 ≤ b.length)
    (g : ∀ acc o us s', LstO o us → Strs us (bs.filter isB) → Loc w s₀ L m ((acc, o) :: D) W sr s' → Q (.ref acc) s') :
    wpAny (model Challenge.rw_pm0006_01.row.prog w) A (pyIter (.ref l)) (fun it s₂ => CompTail Challenge.rw_pm0006_01.row.prog w A (lawEnv L fa cd) scB (.Name (Str.ofString "box") p1) (Str.ofString "box") px iter
      [.Compare (.Subscript (.Name (Str.ofString "box") p2) (.Constant (.int 0) k1 p3) p4) [.Eq] [.Constant (.str (Str.ofString "(")) k2 p5] p6] pos (compPost (model Challenge.rw_pm0006_01.row.prog w) A E none Q) E it s₂) E s := by
  have hGi := hol.is (h.get hm)
  have hGlt : l < s.heap.objs.size := h.lt _ hm
  refine wpAny_pyIter_list hGi ?_
  have hc : Calm s { s with heap := s.heap.push { cls := .type "list_iterator", data := .fields #[.ref l, .int 0 0] } } := calm_heap (k := s.toks) fun b o e => Heap.get?_push_of_some _ e
  have hlt : s.heap.objs.size < (s.heap.push { cls := .type "list_iterator", data := .fields #[.ref l, .int 0 0] }).objs.size := by simp [Heap.push]
  refine comp_block (s := s) (fun i us => us.length ≤ i ∧ i ≤ vb.length ∧ Strs us ((bs.take i).filter isB)) (Walks.list (by exact hh) s.heap.objs.size l (Nat.ne_of_lt hGlt) vb.toArray) ?_ ?_ ?_ h.toBase hc (Nat.le_of_lt hlt) ⟨⟨_, Heap.get?_push_size _ rfl, rfl, rfl⟩, hGi.push _⟩ ?_ ?_ ?_ ⟨Nat.le_refl _, Nat.zero_le _, Strs.nil⟩
  · rintro i h ⟨⟨o, ho, _, hd⟩, _⟩ b hb
    rw [List.mem_singleton.mp hb]
    exact ⟨o, _, ho, hd⟩
  · intro b hb
    rcases List.mem_cons.mp hb with rfl | hb
    · exact hlt
    · rw [List.mem_singleton.mp hb]
      exact Nat.lt_trans hGlt hlt
  · intro b hb
    rw [List.mem_singleton.mp hb]
    exact get_new _
  · rintro i v m' o us C acc s6 hi hP ⟨hle, hix, hus⟩ ho hm' h6
    obtain ⟨y, u, rfl, hby⟩ := hvb.get (by simpa using hP)
    have hy1 := hb (tl y) (List.mem_of_getElem? hby)
    rw [tl_len] at hy1
    have hB : (Txt.item y 0 == Str.ofString "(") = isB (tl y) := by
      rw [str_eq, show tl (Str.ofString "(") = [40] by decide, item0 hy1]
      simp [isB]
    have htk : bs.take (i + 1) = bs.take i ++ [tl y] := by rw [List.take_add_one, hby]; rfl
    refine wpAny_tests_one ?_
    walk_at "pms"
    refine r_str_item (by assumption) (by decide) (by omega) (by omega) ?_
    intro _ _ _
    walk_at "pms"
    rw [hB]
    cases hBv : isB (tl y) with
    | true =>
      walk_at "pms"
      rename Loc _ _ _ _ _ _ _ _ => h7
      refine ⟨⟨by simp; omega, by simp at hi; omega, ?_⟩, h7⟩
      rw [htk, List.filter_append]
      simp only [List.filter_cons, hBv, List.filter_nil, if_true]
      exact hus.snoc _ _
    | false =>
      rw [if_neg Bool.false_ne_true]
      rename Loc _ _ _ _ _ _ _ _ => h7
      refine ⟨⟨by omega, by simp at hi; omega, ?_⟩, h7⟩
      rw [htk, List.filter_append]
      simp only [List.filter_cons, hBv, List.filter_nil, Bool.false_eq_true, if_false, List.append_nil]
      exact hus
  · rintro i us ⟨hle, hix, _⟩
    rw [sizeLine_eq]
    have := hvb.len
    omega
  · rintro acc o us C m' s6 ⟨_, _, hus⟩ ho hacc h6
    refine comp_none h hW h6 ho fun s7 h7 => ?_
    rw [List.take_of_length_le (by rw [List.size_toArray, hvb.len]; exact Nat.le_refl _)] at hus
    exact g acc o us s7 ho hus h7

def okB (b : List Nat) : Prop := 1 ≤ b.length ∧ b.length ≤ 20 ∧ ∀ c ∈ b, c < 1000
theorem okB_swp {b : List Nat} (h : okB b) : okB (b.map swp) := by
  refine ⟨by rw [List.length_map]; exact h.1, by rw [List.length_map]; exact h.2.1, fun c hc => ?_⟩
  obtain ⟨d, hd, rfl⟩ := List.mem_map.mp hc
  have := h.2.2 d hd
  unfold swp
  split
  · decide
  · split
    · decide
    · exact this
theorem carStep_row (k : Nat) (σ : Car) (i : Nat) (b : List Nat) : ∃ b', (carStep k σ i b).row = σ.row ++ [b'] ∧ (b' = b ∨ b' = b.map swp) := by
  unfold carStep
  simp only
  generalize (if isB b = true then decide (σ.load < k) else decide (0 < σ.load)) = mv
  refine ⟨if mv = true then b.map swp else b, ?_, ?_⟩
  · split
    · rfl
    · split <;> rfl
  · cases mv
    · exact .inl rfl
    · exact .inr rfl
theorem carRun_row (k : Nat) : ∀ (bs : List (List Nat)) (σ : Car) (i : Nat), (∀ b ∈ σ.row, okB b) → (∀ b ∈ bs, okB b) → (∀ b ∈ (carRun k σ i bs).row, okB b) ∧ (carRun k σ i bs).row.length = σ.row.length + bs.length
  | [], σ, i, h, _ => ⟨h, rfl⟩
  | b :: bs, σ, i, h, h' => by
    obtain ⟨b', e, hb'⟩ := carStep_row k σ i b
    have hok : okB b' := by
      rcases hb' with rfl | rfl
      · exact h' _ (.head _)
      · exact okB_swp (h' _ (.head _))
    have ih := carRun_row k bs (carStep k σ i b) (i + 1) (by
      rw [e]
      intro x hx
      rcases List.mem_append.mp hx with hx | hx
      · exact h x hx
      · rw [List.mem_singleton.mp hx]; exact hok) fun x hx => h' x (.tail _ hx)
    refine ⟨ih.1, ih.2.trans ?_⟩
    rw [e]
    simp
    omega
theorem rowOf_ok {k : Nat} {bs : List (List Nat)} (h : ∀ b ∈ bs, okB b) : (∀ b ∈ (rowOf k bs).row, okB b) ∧ (rowOf k bs).row.length = bs.length := by
  have := carRun_row k bs car0 0 (fun b hb => nomatch hb) h
  exact ⟨this.1, this.2.trans (by simp [car0])⟩

theorem Loc.addAll {w : World} {s₀ sr s : Shared} {L : Addr} {m : Str → Option Value} {D : List (Addr × Obj)} {W : List Addr} : ∀ {D' : List (Addr × Obj)}, Loc w s₀ L m D W sr s → (∀ p ∈ D', s.heap.get? p.1 = some p.2) → (∀ p ∈ D', ∃ vs n, p.2.data = .seq vs n) → Loc w s₀ L m (D' ++ D) W sr s
  | [], h, _, _ => h
  | p :: D', h, h1, h2 => by
    have ih := Loc.addAll h (fun q hq => h1 q (.tail _ hq)) (fun q hq => h2 q (.tail _ hq))
    exact ih.add (h1 p (.head _)) ((h2 p (.head _)).elim fun vs h => h.elim fun n e => seq_ne ih.fr.ns (h1 p (.head _)) e)

/-- balls, laid, lacking -/
structure St1 (ns : List Int) (d : Addr) (od : Obj) (B laid : Nat) (m : Str → Option Value) : Prop where
  ex : ∃ t1 t2 t3, m (Str.ofString "drawn") = some (.ref d) ∧ m (Str.ofString "balls") = some (.int (B : Nat) t1) ∧ m (Str.ofString "laid") = some (.int (laid : Nat) t2) ∧ m (Str.ofString "lacking") = some (.int (((drawnL ns).length : Int) - B - laid) t3)

set_option maxHeartbeats 4000000 in
theorem law_count {w : World} {A : Around} {s sr s1 : Shared} {L fa d : Addr} {cd : Value} {m : Str → Option Value} {od : Obj} {vd : List Value} {ns : List Int} {B laid : Nat} {rest : List Stmt} {Q : Flow → Shared → Prop} (R : Room A 11) (h : Loc w s L m [(d, od)] [] sr s1) (hod : LstO od vd) (hvd : Strs vd (drawnL ns)) (X : Facts (drawnL ns) B laid)
    (hm : m (Str.ofString "drawn") = some (.ref d)) (g : ∀ m' s2, St1 ns d od B laid m' → Loc w s L m' [(d, od)] [] sr s2 → wpAny (model Challenge.rw_pm0006_01.row.prog w) A (execs rest (lawEnv L fa cd)) Q FF s2) :
    wpAny (model Challenge.rw_pm0006_01.row.prog w) A (execs (stAt (pmBody 12) 1 :: stAt (pmBody 12) 2 :: stAt (pmBody 12) 3 :: rest) (lawEnv L fa cd)) Q FF s1 := by
  show wpAny _ _ (execs (.Assign _ _ _ :: .Assign _ _ _ :: .Assign _ _ _ :: rest) _) _ _ _
  have hlen := X.len
  have hbx := X.boxes
  walk_at "pms"
  refine r_ListComp ?_
  walk_at "pms"
  refine filt_comp R.1 h (fun b hb => nomatch hb) (.head _) hod.weak hvd (by omega) (fun b hb => (hbx b hb).1) fun acc oa us s2 hoa hus h2 => ?_
  walk_at "pms"
  show wpAny _ _ (call (.builtin "len") [.ref acc]) _ _ _
  refine r_len_list h2 (.head _) hoa.weak (by rw [hus.len, sizeLine_eq]; have := List.length_filter_le isB (drawnL ns); omega) fun tn s3 h3 => ?_
  rw [hus.len, ← X.hB]
  walk_at "pms"
  refine r_ListComp ?_
  walk_at "pms"
  refine r_callRef (by assumption) rfl ?_
  rename Loc _ _ _ _ _ _ _ _ => h4
  refine carried_ok h4.toBase (R.mono (by decide)) (h4.get (by walk_at "mem" : (d, od) ∈ _)) hod.weak hvd (by omega) (fun b hb => ⟨(hbx b hb).1, (hbx b hb).2.1⟩) fun T oT r or S os Ts vr us2 t s5 hc5 hT hor hos hvr hprs hTs hst5 => ?_
  have h5 := ((h4.calm hc5).addAll hst5 (by
    intro p hp
    simp only [List.mem_cons] at hp
    rcases hp with rfl | rfl | rfl | hp
    · exact hT.seq
    · exact hor.seq
    · exact hos.seq
    · exact (hTs p hp).elim fun q hq => hq.seq)).sub (D' := [(T, oT), (r, or), (d, od)]) (by
    intro p hp
    simp only [List.mem_cons, List.mem_append, List.not_mem_nil, or_false] at hp ⊢
    rcases hp with rfl | rfl | rfl
    · exact .inl (.inl rfl)
    · exact .inl (.inr (.inl rfl))
    · exact .inr (.inr rfl))
  walk_at "pms"
  refine r_tuple_item (x := .ref r) (by assumption) (by walk_at "mem") hT (by decide) (by decide) rfl rfl ?_
  rename Loc _ _ _ _ _ _ _ _ => h6
  have hro := rowOf_ok (k := B) (bs := drawnL ns) hbx
  refine filt_comp R.1 h6 (fun b hb => nomatch hb) (by walk_at "mem" : (r, or) ∈ _) hor hvr (by have := hro.2; unfold rowOf at this; omega) (fun b hb => (hro.1 b hb).1) fun acc2 oa2 us2 s7 hoa2 hus2 h7 => ?_
  walk_at "pms"
  show wpAny _ _ (call (.builtin "len") [.ref acc2]) _ _ _
  refine r_len_list h7 (.head _) hoa2.weak (by rw [hus2.len, sizeLine_eq]; have := List.length_filter_le isB (carRun B car0 0 (drawnL ns)).row; have := hro.2; unfold rowOf at this; omega) fun tn2 s8 h8 => ?_
  rw [hus2.len, show (List.filter isB (carRun B car0 0 (drawnL ns)).row).length = laid from X.hlaid.symm]
  walk_at "pms"
  rename Loc _ _ _ _ _ _ _ _ => h9
  refine r_len_list h9 (by walk_at "mem" : (d, od) ∈ _) hod.weak (by rw [hvd.len, sizeLine_eq]; omega) fun tn3 s10 h10 => ?_
  rw [hvd.len]
  walk_at "pms"
  rename Loc _ _ _ _ _ _ _ _ => h11
  exact g _ _ ⟨_, _, _, by walk_at "lk", by walk_at "lk", by walk_at "lk", by walk_at "lk"⟩ (h11.sub fun p hp => by
    rw [List.mem_singleton.mp hp]
    walk_at "mem")

theorem mulOk1 {x : Str} (hx : x.length = 1) {n : Nat} (hn : n ≤ 1000) : MulOk x (n : Int) := by
  refine ⟨by simp; omega, fun h1 _ => ?_, fun _ _ => ?_⟩
  · rw [hx]
    have : (1 : Int) ≤ (2 ^ 63 - 1) / (n : Int) := by
      rw [Int.le_ediv_iff_mul_le (by omega)]
      omega
    omega
  · rw [hx]
    simp only [Builtin.Str.tooLong, sizeLine_eq]
    simp
    omega
section
variable {w : World} {A : Around} {E : Value → Shared → Prop} {s₀ sr s : Shared} {L : Addr} {m : Str → Option Value} {D : List (Addr × Obj)} {W : List Addr} {prog : Program} {Q : Value → Shared → Prop}
theorem r_addS {x y : Str} {t u : Tok} {a b : List Nat} (h : Loc w s₀ L m D W sr s) (hx : tl x = a) (hy : tl y = b) (hz : a.length + b.length ≤ 3000) (g : ∀ z t s', tl z = a ++ b → Loc w s₀ L m D W sr s' → Q (.str z t) s') :
    wpAny (model prog w) A (binaryOp .Add (.str x t) (.str y u)) Q E s := by
  refine r_add_str h (by rw [← tl_len, ← tl_len, hx, hy, sizeLine_eq]; omega) fun t' s' h' => g _ t' s' ?_ h'
  show (x ++ y).cps.toList = _
  rw [Str.cps_append, Array.toList_append, ← hx, ← hy]
theorem r_mulS {x : Str} {c : Nat} {n : Nat} {t u : Tok} (h : Loc w s₀ L m D W sr s) (hx : x = ⟨#[c]⟩) (hn : n ≤ 1000) (g : ∀ z t s', tl z = List.replicate n c → Loc w s₀ L m D W sr s' → Q (.str z t) s') :
    wpAny (model prog w) A (binaryOp .Mult (.str x t) (.int (n : Int) u)) Q E s := by
  subst hx
  refine r_mul_str h (mulOk1 rfl hn) fun t' s' h' => g _ t' s' ?_ h'
  rw [show tl (Txt.mul ⟨#[c]⟩ (n : Int)) = List.replicate (n : Int).toNat c from mul_one_list c n, Int.toNat_natCast]
end

set_option maxHeartbeats 4000000 in
theorem ask_body {w : World} {A : Around} {s sr s1 : Shared} {L fa d T : Addr} {cd : Value} {m : Str → Option Value} {D : List (Addr × Obj)} {od oT : Obj} {vd : List Value} {ns : List Int} {B laid a b : Nat} {ta tb : Tok} {Q : Flow → Shared → Prop} {ctx : Nat} {px py pos : Pos} (R : Room A 11)
    (h : Loc w s L m D [] sr s1) (hdD : (d, od) ∈ D) (hod : LstO od vd) (hvd : Strs vd (drawnL ns)) (X : Facts (drawnL ns) B laid) (hS : St1 ns d od B laid m) (hTD : (T, oT) ∈ D) (hT : TupO oT [.int (a : Nat) ta, .int (b : Nat) tb]) (hab : (a = 0 ∧ b ≤ 1) ∨ (a = 1 ∧ b = 0))
    (g : ∀ m' D' s2, St1 ns d od B laid m' → (∀ p ∈ D, p ∈ D') → Loc w s L m' D' [] sr s2 → Q .next s2) :
    wpAny (model Challenge.rw_pm0006_01.row.prog w) A (assign (.Tuple [.Name (Str.ofString "ahead") px, .Name (Str.ofString "behind") py] ctx pos) (lawEnv L fa cd) (.ref T)) (fun _ s2 => wpAny (model Challenge.rw_pm0006_01.row.prog w) A (execs (forB (stAt (pmBody 12) 4)) (lawEnv L fa cd)) Q FF s2) FF s1 := by
  obtain ⟨t1, t2, t3, md, mb, ml, mla⟩ := hS
  have hlen := X.len
  have hbx := X.boxes
  have hll := X.ll
  have hBl := X.bl
  have hfl := flatten_len (bs := drawnL ns) fun b hb => (hbx b hb).2.1
  refine r_unpack2 h R.1 hTD hT fun s2 h2 => ?_
  show wpAny _ _ (execs (.Assign _ _ _ :: .Assign _ _ _ :: .If _ _ _ _ :: []) _) _ _ _
  walk_at "pms"
  rw [show ((drawnL ns).length : Int) - B - laid + a = (((drawnL ns).length - B - laid + a : Nat) : Int) by omega]
  refine r_mulS (c := 40) (by assumption) (by decide) (by omega) fun z1 u1 s3 hz1 h3 => ?_
  refine r_addS h3 (show tl (Str.ofString "\"(\"()") = [34, 40, 34, 40, 41] by decide) hz1 (by simp; omega) fun z2 u2 s4 hz2 h4 => ?_
  walk_at "pm"
  refine r_addS (by assumption) hz2 (show tl (Str.ofString ")") = [41] by decide) (by simp; omega) fun z3 u3 s5 hz3 h5 => ?_
  walk_at "pms"
  show wpAny _ _ (call (.builtin "str.join") [.str _ _, .ref d]) _ _ _
  refine r_joinS (by assumption) hdD hod.weak hvd (by decide) (by omega) (fun b hb => by have := (hbx b hb).2.1; omega) fun z4 u4 s6 hz4 h6 => ?_
  rw [show tl (Str.ofString "") = [] by decide, joinL_nil] at hz4
  refine r_addS h6 hz3 hz4 (by simp only [List.length_append, List.length_replicate, List.length_cons, List.length_nil]; omega) fun z5 u5 s7 hz5 h7 => ?_
  walk_at "pms"
  refine r_addS (by assumption) hz5 (show tl (Str.ofString "\"\\\\") = [34, 92, 92] by decide) (by simp only [List.length_append, List.length_replicate, List.length_cons, List.length_nil]; omega) fun z6 u6 s8 hz6 h8 => ?_
  walk_at "pms"
  rw [show (B : Int) - (laid : Int) = ((B - laid : Nat) : Int) by omega]
  refine r_mulS (c := 41) (by assumption) (by decide) (by omega) fun z7 u7 s9 hz7 h9 => ?_
  refine r_addS h9 hz6 hz7 (by simp only [List.length_append, List.length_replicate, List.length_cons, List.length_nil]; omega) fun z8 u8 s10 hz8 h10 => ?_
  walk_at "pms"
  refine r_mulS (c := 40) (by assumption) (by decide) (by omega) fun z9 u9 s11 hz9 h11 => ?_
  refine r_addS h11 hz8 hz9 (by simp only [List.length_append, List.length_replicate, List.length_cons, List.length_nil]; omega) fun z10 u10 s12 hz10 h12 => ?_
  walk_at "pm"
  refine r_addS (by assumption) hz10 (show tl (Str.ofString "\\") = [92] by decide) (by simp only [List.length_append, List.length_replicate, List.length_cons, List.length_nil]; omega) fun z11 u11 s13 hz11 h13 => ?_
  walk_at "pms"
  refine r_callRef (by assumption) rfl ?_
  rename Loc _ _ _ _ _ _ _ _ => h14
  have hz11l : z11.length ≤ 2000 := by
    rw [← tl_len, hz11]
    simp only [List.length_append, List.length_replicate, List.length_cons, List.length_nil]
    omega
  refine check_ok h14.toBase (R.mono (by decide)) hz11l fun s15 hc15 => ?_
  have h15 := h14.calm hc15
  have hask := X.asked a b hab
  rw [hz11, hask]
  walk_at "pms"
  have e : (decide (a = 1) != ((a : Int) == 1)) = false := by
    rcases hab with ⟨rfl, _⟩ | ⟨rfl, _⟩ <;> rfl
  rw [e]
  walk_at "pms"
  rename Loc _ _ _ _ _ _ _ _ => h16
  exact g _ D _ ⟨_, _, _, by walk_at "lk", by walk_at "lk", by walk_at "lk", by walk_at "lk"⟩ (fun p hp => hp) h16

theorem go_tupleiter {prog : Program} {w : World} {A : Around} {E : Value → Shared → Prop} {s : Shared} {elts : List Expr} {x1} {pos : Pos} {I l : Addr} {v : Value} {i : Nat} {Q : Unit → Shared → Prop} (hit : s.heap.IsTupleIter I l i) (hQ : Q () s) :
    wpAny (model prog w) A (letOwnedTupleGo (.Tuple elts x1 pos) (.ref I) v) Q E s := by
  obtain ⟨o, ho, hc, hd⟩ := hit
  cases v with
  | ref T =>
    unfold letOwnedTupleGo
    refine wpAny_bind (wpAny_load ho ?_)
    rw [hc, hd]
    exact wpAny_pure hQ
  | _ => exact wpAny_pure hQ

set_option maxHeartbeats 4000000 in
theorem law_ask {w : World} {A : Around} {s sr s1 : Shared} {L fa d : Addr} {cd : Value} {m : Str → Option Value} {od : Obj} {vd : List Value} {ns : List Int} {B laid : Nat} {Q : Flow → Shared → Prop} (R : Room A 11)
    (h : Loc w s L m [(d, od)] [] sr s1) (hod : LstO od vd) (hvd : Strs vd (drawnL ns)) (X : Facts (drawnL ns) B laid) (hS : St1 ns d od B laid m)
    (g : ∀ m' s2, St1 ns d od B laid m' → Loc w s L m' [(d, od)] [] sr s2 → Q .next s2) :
    wpAny (model Challenge.rw_pm0006_01.row.prog w) A (exec (stAt (pmBody 12) 4) (lawEnv L fa cd)) Q FF s1 := by
  show wpAny _ _ (exec (.For _ _ _ _ _) _) _ _ _
  refine wpAny_For ?_
  walk_at "pms"
  rename_i a1 _ _ a2 _ _ T1 oT1 _ hT1 _ _ a3 _ _ a4 _ _ T2 oT2 _ hT2 _ _ a5 _ _ a6 _ _ T3 oT3 _ hT3 _ _ T oT s2 hT _ h2
  have hTi := hT.is (h2.get (.head _))
  have hTlt : T < s2.heap.objs.size := h2.lt _ (.head _)
  refine wpAny_pyIter_tuple hTi ?_
  have h3 := h2.grow { cls := .type "tuple_iterator", data := .fields #[.ref T, .int 0 0] } s2.toks
  refine walk_loopG (fun i m' D' => St1 ns d od B laid m' ∧ D' = [(T, oT), (T3, oT3), (T2, oT2), (T1, oT1), (d, od)]) [] (Walks.tuple (by exact R.1) s2.heap.objs.size T (Nat.ne_of_lt hTlt) [Value.ref T1, .ref T2, .ref T3].toArray) ?_ ?_ ?_ ?_ ?_ ?_ ?_ ?_ ⟨hS, rfl⟩ h3
    ⟨⟨_, Heap.get?_push_size _ rfl, rfl, rfl⟩, hTi.push _⟩ ?_
  · rintro i h ⟨⟨o, ho, _, hd⟩, _⟩ b hb
    rw [List.mem_singleton.mp hb]
    exact ⟨o, _, ho, hd⟩
  · intro q
    rcases List.mem_cons.mp q with q | q
    · exact (Nat.ne_of_lt h2.ltL) q
    · exact (h2.led _ (.head _)).2 (List.mem_singleton.mp q).symm
  · intro b hb q
    nomatch q
  · intro b hb
    rw [List.mem_singleton.mp hb]
    exact h2.new0 (Nat.le_refl _)
  · intro b hb
    rw [List.mem_singleton.mp hb]
    exact h2.newsr (fun b hb => nomatch hb) (Nat.le_refl _)
  · rintro i m' D' ⟨_, rfl⟩ p hp
    simp only [List.mem_cons, List.not_mem_nil, or_false] at hp
    rcases hp with rfl | rfl | rfl | rfl | rfl
    · exact hT.seq
    · exact hT3.seq
    · exact hT2.seq
    · exact hT1.seq
    · exact hod.seq
  · rintro i v m' D' s4 hi hP ⟨hS', rfl⟩ h4
    have h4' := h4.snap []
    have fin : ∀ {m'' D''} {s5 : Shared}, St1 ns d od B laid m'' → (∀ p ∈ [(T, oT), (T3, oT3), (T2, oT2), (T1, oT1), (d, od)], p ∈ D'') → Loc w s L m'' D'' [] s4 s5 → ∃ m' D', (St1 ns d od B laid m' ∧ D' = [(T, oT), (T3, oT3), (T2, oT2), (T1, oT1), (d, od)]) ∧ Loc w s L m' D' [] s4 s5 :=
      fun hS'' hD h5 => ⟨_, _, ⟨hS'', rfl⟩, h5.sub hD⟩
    match i, hi, hP with
    | 0, _, hP =>
      cases hP
      exact ask_body (a := 0) (b := 0) R h4' (by walk_at "mem" : (d, od) ∈ _) hod hvd X hS' (by walk_at "mem" : (T1, oT1) ∈ _) hT1 (.inl ⟨rfl, by decide⟩) fun m'' D'' s5 hS'' hD h5 => fin hS'' hD h5
    | 1, _, hP =>
      cases hP
      exact ask_body (a := 0) (b := 1) R h4' (by walk_at "mem" : (d, od) ∈ _) hod hvd X hS' (by walk_at "mem" : (T2, oT2) ∈ _) hT2 (.inl ⟨rfl, by decide⟩) fun m'' D'' s5 hS'' hD h5 => fin hS'' hD h5
    | 2, _, hP =>
      cases hP
      exact ask_body (a := 1) (b := 0) R h4' (by walk_at "mem" : (d, od) ∈ _) hod hvd X hS' (by walk_at "mem" : (T3, oT3) ∈ _) hT3 (.inr ⟨rfl, rfl⟩) fun m'' D'' s5 hS'' hD h5 => fin hS'' hD h5
    | n + 3, hi, _ => exact absurd hi (by simp)
  · rintro m' D' s4 ⟨hS', rfl⟩ h4
    exact g m' s4 hS' (h4.sub fun p hp => by
      rw [List.mem_singleton.mp hp]
      walk_at "mem")
  · intro i v s' Q' E' hst hQ
    exact go_tupleiter hst.1 hQ

def row0 (ns : List Int) (B : Nat) : List (List Nat) := drawnL ns ++ List.replicate (3 * B) [41]
theorem strs_rep (t : Tok) : ∀ n : Nat, Strs (List.replicate n [Value.str (Str.ofString ")") t]).flatten (List.replicate n [41])
  | 0 => Strs.nil
  | n + 1 => by
    have ih := strs_rep t n
    rw [List.replicate_succ, List.replicate_succ]
    have h1 := (Strs.nil.snoc (Str.ofString ")") t).append ih
    rw [show tl (Str.ofString ")") = [41] by decide] at h1
    exact h1
theorem row0_ok {ns : List Int} {B laid : Nat} (X : Facts (drawnL ns) B laid) : (∀ b ∈ row0 ns B, okB b) ∧ (row0 ns B).length ≤ 44 := by
  refine ⟨fun b hb => ?_, ?_⟩
  · rcases List.mem_append.mp hb with hb | hb
    · exact X.boxes b hb
    · rw [List.eq_of_mem_replicate hb]
      exact ⟨by decide, by decide, by simp⟩
  · have h1 := X.len
    have h2 := X.bl
    unfold row0
    rw [List.length_append, List.length_replicate]
    omega

/-- rows, told, rest -/
structure St2 (ns : List Int) (B : Nat) (rs : Addr) (td : Addr) (yr : Str) (tr tB : Tok) (m : Str → Option Value) : Prop where
  balls : m (Str.ofString "balls") = some (.int (B : Nat) tB)
  rows : m (Str.ofString "rows") = some (.ref rs)
  told : m (Str.ofString "told") = some (.ref td)
  rest : m (Str.ofString "rest") = some (.str yr tr)
  hrest : tl yr = (struckF (row0 ns B)).2

set_option maxHeartbeats 4000000 in
theorem law_rows {w : World} {A : Around} {s sr s1 : Shared} {L fa d : Addr} {cd : Value} {m : Str → Option Value} {od : Obj} {vd : List Value} {ns : List Int} {B laid : Nat} {rst : List Stmt} {Q : Flow → Shared → Prop} (R : Room A 11)
    (h : Loc w s L m [(d, od)] [] sr s1) (hod : LstO od vd) (hvd : Strs vd (drawnL ns)) (X : Facts (drawnL ns) B laid) (hS : St1 ns d od B laid m)
    (g : ∀ rs ors r0 or0 v0 td otd vt yr tr tB m' s2, LstO ors [.ref r0] → s.heap.get? rs = none → ListO or0 v0 → Strs v0 (row0 ns B) → ListO otd vt → Nums vt (struckF (row0 ns B)).1 → St2 ns B rs td yr tr tB m' → r0 ≠ rs → td ≠ rs → Loc w s L m' [(rs, ors), (r0, or0), (td, otd)] [] sr s2 → wpAny (model Challenge.rw_pm0006_01.row.prog w) A (execs rst (lawEnv L fa cd)) Q FF s2) :
    wpAny (model Challenge.rw_pm0006_01.row.prog w) A (execs (stAt (pmBody 12) 5 :: stAt (pmBody 12) 6 :: stAt (pmBody 12) 7 :: rst) (lawEnv L fa cd)) Q FF s1 := by
  show wpAny _ _ (execs (.Assign _ _ _ :: .Assign _ _ _ :: .If _ _ _ _ :: rst) _) _ _ _
  obtain ⟨t1, t2, t3, md, mb, ml, mla⟩ := hS
  have hbl := X.bl
  have hlen := X.len
  have hR0 := row0_ok X
  walk_at "pms"
  rename_i tk _ _ N oN _ hoN _ _ _ _ _ _ _
  refine r_mul_int (by assumption) (IntMulOk.of_left (by decide +kernel)) fun t4 s2 h2 => ?_
  rw [show (3 : Int) * (B : Int) = ((3 * B : Nat) : Int) by omega]
  refine r_mul_list h2 (by walk_at "mem" : (N, oN) ∈ _) hoN.weak (by omega) (by omega) (by rw [Int.toNat_natCast]; simp only [List.length_cons, List.length_nil]; omega) fun M oM s3 hoM hMd hM0 h3 => ?_
  rw [Int.toNat_natCast] at hoM
  have hvM := strs_rep tk (3 * B)
  have hMl := hvM.len
  rw [List.length_replicate] at hMl
  refine r_add_list h3 (by walk_at "mem" : (d, od) ∈ _) hod.weak (.head _) hoM (by rw [hvd.len, hMl, sizeLine_eq]; omega) fun r0 or0 s4 hor0 hr0d hr00 h4 => ?_
  have hv0 : Strs _ (row0 ns B) := hvd.append hvM
  generalize vd ++ _ = v0 at hor0 hv0
  walk_at "pms"
  rename_i rs ors _ hors hrsd hrs0 hrsL _ _ _
  refine Assign_Tuple ?_
  walk_at "pms"
  refine r_list_item (x := .ref r0) (by assumption) (by walk_at "mem" : (rs, ors) ∈ _) hors.weak (by decide) (by decide) rfl ?_
  walk_at "pms"
  refine r_callRef (by assumption) rfl ?_
  rename Loc _ _ _ _ _ _ _ _ => h5
  refine struck_ok h5.toBase (R.mono (by decide)) (h5.get (by walk_at "mem" : (r0, or0) ∈ _)) hor0 hv0 (by omega) (fun b hb => (hR0.1 b hb).2.1) fun T oT td otd vt y t s6 hc6 hT hotd hvt hy hst6 => ?_
  have h6 := (h5.calm hc6).addAll hst6 (by
    intro p hp
    simp only [List.mem_cons, List.not_mem_nil, or_false] at hp
    rcases hp with rfl | rfl
    · exact hT.seq
    · exact hotd.seq)
  replace h6 := h6.sub (D' := [(T, oT), (td, otd), (rs, ors), (r0, or0)]) (by
    intro p hp
    simp only [List.mem_cons, List.mem_append, List.not_mem_nil, or_false] at hp ⊢
    rcases hp with rfl | rfl | rfl | rfl
    · exact .inl (.inl rfl)
    · exact .inl (.inr rfl)
    · exact .inr (.inl rfl)
    · exact .inr (.inr (.inl rfl)))
  have htdrs : td ≠ rs := by
    intro q
    have e1 := h6.get (by walk_at "mem" : (rs, ors) ∈ _)
    have e2 := h6.get (by walk_at "mem" : (td, otd) ∈ _)
    rw [q, e1] at e2
    have e4 : ors = otd := Option.some.inj e2
    obtain ⟨n, hn⟩ := hotd.data
    obtain ⟨k, hk⟩ := hors
    rw [← e4, hk] at hn
    obtain ⟨ys, hys, _⟩ := hvt
    have e3 : [Value.ref r0] = vt := by
      injection hn with hn
      simpa using congrArg Array.toList hn
    rw [hys] at e3
    cases ys with
    | nil => cases e3
    | cons y ys => cases e3
  have hr0rs : r0 ≠ rs := hrsd _ (by walk_at "mem" : (r0, or0) ∈ _)
  refine r_unpack2 h6 R.1 (.head _) hT fun s7 h7 => ?_
  walk_at "pms"
  refine r_list_item (x := .ref r0) (by assumption) (by walk_at "mem" : (rs, ors) ∈ _) hors.weak (by decide) (by decide) rfl ?_
  walk_at "pms"
  rename Loc _ _ _ _ _ _ _ _ => h8
  refine r_len_list h8 (by walk_at "mem" : (r0, or0) ∈ _) hor0 (by rw [hv0.len, sizeLine_eq]; omega) fun tn s9 h9 => ?_
  walk_at "pms"
  refine r_mul_int (by assumption) (IntMulOk.of_left (by decide +kernel)) fun t6 s10 h10 => ?_
  walk_at "pms"
  have hr2 := X.rest2
  have hrest : (struckF (row0 ns B)).2 = List.replicate ((row0 ns B).length - 2 * B) 41 ++ [34] := X.rest
  replace hr2 : 2 * B ≤ (row0 ns B).length := hr2
  rw [hv0.len, show ((row0 ns B).length : Int) - 2 * (B : Int) = (((row0 ns B).length - 2 * B : Nat) : Int) by omega]
  refine r_mulS (c := 41) (by assumption) (by decide) (by omega) fun z1 u1 s11 hz1 h11 => ?_
  walk_at "pm"
  refine r_addS (by assumption) hz1 (show tl (Str.ofString "\"") = [34] by decide) (by simp only [List.length_append, List.length_replicate, List.length_cons, List.length_nil]; omega) fun z2 u2 s12 hz2 h12 => ?_
  walk_at "pms"
  rw [show (y != z2) = false by rw [bne, str_eq, hy, hrest, hz2, decide_eq_true rfl]; rfl]
  walk_at "pms"
  exact g rs ors r0 or0 v0 td otd vt y t t1 _ _ hors hrs0 hor0 hv0 hotd hvt ⟨by walk_at "lk", by walk_at "lk", by walk_at "lk", by walk_at "lk", hy⟩ hr0rs htdrs (h12.sub fun p hp => by
    simp only [List.mem_cons, List.not_mem_nil, or_false] at hp ⊢
    rcases hp with rfl | rfl | rfl
    · exact .inr (.inr (.inl rfl))
    · exact .inr (.inr (.inr rfl))
    · exact .inr (.inl rfl))

set_option maxHeartbeats 4000000 in
theorem law_rooms {w : World} {A : Around} {s sr s1 : Shared} {L fa rs r0 td : Addr} {cd : Value} {m : Str → Option Value} {ors or0 otd : Obj} {v0 vt : List Value} {yr : Str} {tr tB : Tok} {ns : List Int} {B laid : Nat} {Q : Flow → Shared → Prop} (R : Room A 11)
    (h : Loc w s L m [(rs, ors), (r0, or0), (td, otd)] [] sr s1) (hors : LstO ors [.ref r0]) (hor0 : ListO or0 v0) (hv0 : Strs v0 (row0 ns B)) (hotd : ListO otd vt) (hvt : Nums vt (struckF (row0 ns B)).1) (X : Facts (drawnL ns) B laid) (hS : St2 ns B rs td yr tr tB m)
    (g : ∀ m' s2, St2 ns B rs td yr tr tB m' → Loc w s L m' [(rs, ors), (r0, or0), (td, otd)] [] sr s2 → Q .next s2) :
    wpAny (model Challenge.rw_pm0006_01.row.prog w) A (exec (stAt (pmBody 12) 8) (lawEnv L fa cd)) Q FF s1 := by
  show wpAny _ _ (exec (.For _ _ _ _ _) _) _ _ _
  have hR0 := row0_ok X
  have htn : (struckF (row0 ns B)).1.length ≤ 60 := X.toldn
  have hmt := hS.told
  have hmr := hS.rows
  refine wpAny_For ?_
  walk_at "pms"
  rename Loc _ _ _ _ _ _ _ _ => h2
  refine r_len_list h2 (by walk_at "mem" : (td, otd) ∈ _) hotd (by rw [hvt.len, sizeLine_eq]; omega) fun tn s3 h3 => ?_
  rw [hvt.len]
  walk_at "pms"
  rename_i t0 _ t1 _ _ t2 s4 h4
  rw [show ((struckF (row0 ns B)).1.length : Int) + 1 = (((struckF (row0 ns B)).1.length + 1 : Nat) : Int) by omega]
  refine call_range_2 ?_
  have h5 := h4.grow { cls := .type "range", data := .fields #[.int 1 t0, .int (((struckF (row0 ns B)).1.length + 1 : Nat) : Int) t2, .int 1 s4.toks] } (s4.toks + 1)
  refine range_loop (r := s4.heap.objs.size) (a := ((1 : Nat) : Int)) (W := []) (fun i m' D' => St2 ns B rs td yr tr tB m' ∧ D' = [(rs, ors), (r0, or0), (td, otd)]) (struckF (row0 ns B)).1.length R.1 (Heap.get?_push_size s4.heap rfl) (range_small1 (by decide) (by omega)) (by rw [range_size1]; omega) ?_ ?_ ?_ ?_ ⟨hS, rfl⟩ h5
  · intro b hb
    nomatch hb
  · rintro i m' D' ⟨_, rfl⟩ p hp
    simp only [List.mem_cons, List.not_mem_nil, or_false] at hp
    rcases hp with rfl | rfl | rfl
    · exact hors.seq
    · exact hor0.seq
    · exact hotd.seq
  · rintro i tk m' D' s6 hi ⟨hS', rfl⟩ h6 back
    rw [show ((1 : Nat) : Int) + (i : Int) * 1 = ((i + 1 : Nat) : Int) by omega] at h6
    have hmt' := hS'.told
    have hmr' := hS'.rows
    have hvi := nums_take hvt (i + 1) hi
    walk_at "pms"
    refine r_list_slice (by assumption) (by walk_at "mem" : (td, otd) ∈ _) hotd .none (.int _ _) .none (by decide) (by rw [hvt.len, sizeLine_eq]; omega) ?_
    intro P oP s7 hoP hPd hP0 h7
    walk_at "pms"
    refine r_sum R.1 h7 (.head _) hoP hvi fun t8 s8 h8 => ?_
    walk_at "pms"
    refine r_list_item (x := .ref r0) (by assumption) (by walk_at "mem" : (rs, ors) ∈ _) hors.weak (by decide) (by decide) rfl ?_
    walk_at "pms"
    refine r_callRef (by assumption) rfl ?_
    rename Loc _ _ _ _ _ _ _ _ => h9
    refine carried_ok h9.toBase (R.mono (by decide)) (h9.get (by walk_at "mem" : (r0, or0) ∈ _)) hor0 hv0 (by omega) (fun b hb => ⟨(hR0.1 b hb).1, (hR0.1 b hb).2.1⟩) fun T oT r or S os Ts vr us2 t s10 hc10 hT hor hos hvr hprs hTs hst10 => ?_
    have h10 := (h9.calm hc10).add (b := T) (o := oT) (hst10 _ (.head _)) (hT.seq.elim fun vs h => h.elim fun n e => seq_ne (h9.calm hc10).fr.ns (hst10 (T, oT) (.head _)) e)
    walk_at "pms"
    refine r_tuple_item (x := .int ((carRun (i + 1) car0 0 (row0 ns B)).taken : Nat) t) (by assumption) (.head _) hT (by decide) (by decide) rfl rfl ?_
    walk_at "pms"
    have e : ((struckF (row0 ns B)).1.take (i + 1)).sum = (carRun (i + 1) car0 0 (row0 ns B)).taken := X.told (i + 1) (by omega) hi
    rw [e, show ((((carRun (i + 1) car0 0 (row0 ns B)).taken : Nat) : Int) != (((carRun (i + 1) car0 0 (row0 ns B)).taken : Nat) : Int)) = false by simp]
    walk_at "pms"
    rename Loc _ _ _ _ _ _ _ _ => h11
    refine ⟨_, _, ⟨?_, rfl⟩, h11.sub fun p hp => .tail _ (.tail _ hp)⟩
    exact ⟨(upd_ne (by decide)).trans hS'.balls, (upd_ne (by decide)).trans hS'.rows, (upd_ne (by decide)).trans hS'.told, (upd_ne (by decide)).trans hS'.rest, hS'.hrest⟩
  · rintro m' D' s6 ⟨hS', rfl⟩ h6
    exact g m' s6 hS' h6

/-- the rows, one behind the other -/
def Rk (ns : List Int) (B : Nat) : Nat → List (List Nat)
  | 0 => row0 ns B
  | k + 1 => (rowOf B (Rk ns B k)).row
def Rws (Es : List (Addr × Obj)) (rs : Addr) (vs : List Value) (Rs : List (List (List Nat))) : Prop :=
  ∃ as : List (Addr × Obj × List (List Nat)), vs = as.map (fun a => .ref a.1) ∧ Rs = as.map (fun a => a.2.2) ∧ ∀ a ∈ as, (a.1, a.2.1) ∈ Es ∧ a.1 ≠ rs ∧ ∃ us, ListO a.2.1 us ∧ Strs us a.2.2
theorem Rws.snoc {Es Es' : List (Addr × Obj)} {rs r : Addr} {o : Obj} {us : List Value} {vs : List Value} {Rs : List (List (List Nat))} {R : List (List Nat)} (h : Rws Es rs vs Rs) (hs : ∀ p ∈ Es, p ∈ Es') (hm : (r, o) ∈ Es') (hr : r ≠ rs) (ho : ListO o us) (hu : Strs us R) : Rws Es' rs (vs ++ [.ref r]) (Rs ++ [R]) := by
  obtain ⟨as, rfl, rfl, h3⟩ := h
  refine ⟨as ++ [(r, o, R)], by simp, by simp, fun a ha => ?_⟩
  rcases List.mem_append.mp ha with ha | ha
  · exact ⟨hs _ (h3 a ha).1, (h3 a ha).2⟩
  · rw [List.mem_singleton.mp ha]
    exact ⟨hm, hr, us, ho, hu⟩
theorem Rws.split {Es : List (Addr × Obj)} {rs : Addr} {vs : List Value} {Rs : List (List (List Nat))} {R : List (List Nat)} (h : Rws Es rs vs (Rs ++ [R])) : ∃ vs' r o us, vs = vs' ++ [.ref r] ∧ Rws Es rs vs' Rs ∧ (r, o) ∈ Es ∧ r ≠ rs ∧ ListO o us ∧ Strs us R := by
  obtain ⟨as, rfl, h2, h3⟩ := h
  rcases List.eq_nil_or_concat as with rfl | ⟨as', a, rfl⟩
  · simp at h2
  · rw [List.concat_eq_append, List.map_append] at h2
    obtain ⟨e1, e2⟩ := List.append_inj' h2 rfl
    obtain ⟨h4, h5, us, h6, h7⟩ := h3 a (by simp)
    simp only [List.map_cons, List.map_nil, List.cons.injEq, and_true] at e2
    exact ⟨as'.map (fun a => .ref a.1), a.1, a.2.1, us, by simp, ⟨as', rfl, e1, fun b hb => h3 b (by simp [hb])⟩, h4, h5, h6, e2 ▸ h7⟩
def RsAt (ns : List Int) (B : Nat) (k : Nat) : List (List (List Nat)) := (List.range (k + 1)).map (Rk ns B)
theorem RsAt_succ (ns : List Int) (B k : Nat) : RsAt ns B (k + 1) = RsAt ns B k ++ [Rk ns B (k + 1)] := by
  unfold RsAt
  rw [List.range_succ, List.map_append]
  rfl
theorem RsAt_last (ns : List Int) (B k : Nat) : ∃ Rs, RsAt ns B k = Rs ++ [Rk ns B k] := by
  unfold RsAt
  rw [List.range_succ, List.map_append]
  exact ⟨_, rfl⟩
theorem Rk_ok {ns : List Int} {B laid : Nat} (X : Facts (drawnL ns) B laid) : ∀ k, (∀ b ∈ Rk ns B k, okB b) ∧ (Rk ns B k).length ≤ 44
  | 0 => row0_ok X
  | k + 1 => by
    have ih := Rk_ok X k
    have h := rowOf_ok (k := B) ih.1
    exact ⟨h.1, h.2 ▸ ih.2⟩
theorem okB_small {bs : List (List Nat)} (h : ∀ b ∈ bs, okB b) : small3 bs := fun b hb c hc => Nat.lt_trans ((h b hb).2.2 c hc) (by decide)
theorem fx_ex {ns : List Int} {B laid : Nat} (X : Facts (drawnL ns) B laid) : ∀ i, i < 2 → exchF (Rk ns B i) = (Rk ns B (i + 1), (rowOf B (Rk ns B i)).st)
  | 0, _ => X.ex0
  | 1, _ => X.ex1
theorem fx_st {ns : List Int} {B laid : Nat} (X : Facts (drawnL ns) B laid) : ∀ i, i < 2 → struckF (Rk ns B (i + 1)) = struckF (row0 ns B)
  | 0, _ => X.st1
  | 1, _ => X.st2
theorem fx_rv {ns : List Int} {B laid : Nat} (X : Facts (drawnL ns) B laid) : ∀ i, i < 2 → (exchF (Rk ns B (i + 1)).reverse).1.reverse = Rk ns B i
  | 0, _ => X.rv1
  | 1, _ => X.rv2

theorem Rws.len {Es : List (Addr × Obj)} {rs : Addr} {vs : List Value} {Rs : List (List (List Nat))} (h : Rws Es rs vs Rs) : vs.length = Rs.length := by
  obtain ⟨as, rfl, rfl, _⟩ := h
  simp
structure StpJ (ns : List Int) (B : Nat) (rs td : Addr) (otd : Obj) (yr : Str) (tr tB : Tok) (k : Nat) (m : Str → Option Value) (D : List (Addr × Obj)) : Prop where
  ex : ∃ ors vr Es, D = (rs, ors) :: Es ∧ LstO ors vr ∧ Rws Es rs vr (RsAt ns B k) ∧ (td, otd) ∈ Es ∧ (∀ p ∈ Es, p.1 ≠ rs ∧ ∃ vs n, p.2.data = .seq vs n) ∧ St2 ns B rs td yr tr tB m

set_option maxHeartbeats 4000000 in
theorem law_steps {w : World} {A : Around} {s sr s1 : Shared} {L fa rs td : Addr} {cd : Value} {m : Str → Option Value} {D : List (Addr × Obj)} {otd : Obj} {vt : List Value} {yr : Str} {tr tB : Tok} {ns : List Int} {B laid : Nat} {Q : Flow → Shared → Prop} (R : Room A 11)
    (h : Loc w s L m D [rs] sr s1) (hJ : StpJ ns B rs td otd yr tr tB 0 m D) (hrs0 : s.heap.get? rs = none) (hotd : ListO otd vt) (hvt : Nums vt (struckF (row0 ns B)).1) (X : Facts (drawnL ns) B laid)
    (g : ∀ m' D' s2, StpJ ns B rs td otd yr tr tB 2 m' D' → Loc w s L m' D' [rs] sr s2 → Q .next s2) :
    wpAny (model Challenge.rw_pm0006_01.row.prog w) A (exec (stAt (pmBody 12) 9) (lawEnv L fa cd)) Q FF s1 := by
  show wpAny _ _ (exec (.For _ _ _ _ _) _) _ _ _
  refine wpAny_For ?_
  walk_at "pms"
  rename_i t0 s4 h4
  refine call_range_1 ?_
  have h5 := h4.grow { cls := .type "range", data := .fields #[.int 0 s4.toks, .int 2 t0, .int 1 (s4.toks + 1)] } (s4.toks + 1 + 1)
  have hrslt : rs < s4.heap.objs.size := by
    obtain ⟨ors, vr, Es, rfl, _⟩ := hJ.ex
    exact h4.lt _ (.head _)
  refine range_loop (r := s4.heap.objs.size) (a := ((0 : Nat) : Int)) (b := ((2 : Nat) : Int)) (W := [rs]) (fun i m' D' => StpJ ns B rs td otd yr tr tB i m' D') 2 R.1 (Heap.get?_push_size s4.heap rfl) (range_small1 (by decide) (by decide)) (by rw [range_size1]) ?_ ?_ ?_ ?_ hJ h5
  · intro b hb
    rw [List.mem_singleton.mp hb]
    exact Nat.lt_of_lt_of_le hrslt (by simp [Heap.push])
  · rintro i m' D' ⟨ors, vr, Es, rfl, hors, _, _, hEs, _⟩ p hp
    rcases List.mem_cons.mp hp with rfl | hp
    · exact hors.seq
    · exact (hEs p hp).2
  · rintro i tk m' D' s6 hi ⟨ors, vr, Es, rfl, hors, hrw, htd, hEs, hS⟩ h6 back
    have hmr := hS.rows
    have hmb := hS.balls
    have hmt := hS.told
    have hmy := hS.rest
    obtain ⟨Rs, hRs⟩ := RsAt_last ns B i
    have hrl := hrw.len
    have hrl2 : (RsAt ns B i).length = i + 1 := by simp [RsAt]
    have hrw' := hrw
    rw [hRs] at hrw
    obtain ⟨vr', ri, oi, us, rfl, hrw2, hri, hrirs, hoi, hus⟩ := hrw.split
    have hok := Rk_ok X i
    have hok2 := Rk_ok X (i + 1)
    walk_at "pms"
    refine Assign_Tuple ?_
    walk_at "pms"
    refine r_neg_int (by assumption) fun t7 s7 h7 => ?_
    refine r_list_last h7 (.head _) hors.weak ?_
    walk_at "pms"
    refine r_callRef (by assumption) rfl ?_
    rename Loc _ _ _ _ _ _ _ _ => h8
    refine carried_ok h8.toBase (R.mono (by decide)) (h8.get (.tail _ hri)) hoi hus (by omega) (fun b hb => ⟨(hok.1 b hb).1, (hok.1 b hb).2.1⟩) fun T oT r or S os Ts vw vs t s9 hc9 hT hor hos hvw hprs hTs hst9 => ?_
    have h9 := (h8.calm hc9).addAll hst9 (by
      intro p hp
      simp only [List.mem_cons] at hp
      rcases hp with rfl | rfl | rfl | hp
      · exact hT.seq
      · exact hor.seq
      · exact hos.seq
      · exact (hTs p hp).elim fun q hq => hq.seq)
    replace hvw : Strs vw (Rk ns B (i + 1)) := hvw
    replace h9 : Loc w s L _ ((T, oT) :: (r, or) :: (S, os) :: (Ts ++ (rs, ors) :: Es)) _ _ _ := h9
    refine r_unpack3 h9 R.1 (.head _) hT fun s10 h10 => ?_
    walk_at "pms"
    refine r_neg_int (by assumption) fun t11 s11 h11 => ?_
    refine r_list_last h11 (.tail _ (.tail _ (.tail _ (List.mem_append_right _ (.head _))))) hors.weak ?_
    walk_at "pms"
    refine r_callRef (by assumption) rfl ?_
    rename Loc _ _ _ _ _ _ _ _ => h12
    refine exchanged_ok h12.toBase (R.mono (by decide)) (h12.get (.tail _ (.tail _ (.tail _ (List.mem_append_right _ (.tail _ hri)))))) hoi hus (by omega) (fun b hb => ⟨(hok.1 b hb).1, (hok.1 b hb).2.1⟩) fun T2 oT2 r2 or2 S2 os2 Ts2 vr2 vs2 s13 hc13 hT2 hor2 hos2 hvr2 hprs2 hTs2 hst13 => ?_
    have h13 := (h12.calm hc13).addAll hst13 (by
      intro p hp
      simp only [List.mem_cons] at hp
      rcases hp with rfl | rfl | rfl | hp
      · exact hT2.seq
      · exact hor2.seq
      · exact hos2.seq
      · exact (hTs2 p hp).elim fun q hq => hq.seq)
    replace h13 : Loc w s L _ ((T2, oT2) :: (r2, or2) :: (S2, os2) :: (Ts2 ++ (T, oT) :: (r, or) :: (S, os) :: (Ts ++ (rs, ors) :: Es))) _ _ _ := h13
    rw [fx_ex X i hi] at hvr2 hprs2
    walk_at "pms"
    rename_i N oN s14 hN hNd h14
    have mT : ∀ p, p ∈ (T, oT) :: (r, or) :: (S, os) :: (Ts ++ (rs, ors) :: Es) → p ∈ (N, oN) :: (T2, oT2) :: (r2, or2) :: (S2, os2) :: (Ts2 ++ (T, oT) :: (r, or) :: (S, os) :: (Ts ++ (rs, ors) :: Es)) := fun p hp => .tail _ (.tail _ (.tail _ (.tail _ (List.mem_append_right _ hp))))
    refine r_ne_same (d := .tuple [dStrs (Rk ns B (i + 1)), dPrs (rowOf B (Rk ns B i)).st])
      (reads_pair (h14.get (by walk_at "mem" : (T2, oT2) ∈ _)) hT2 (reads_strs (h14.get (by walk_at "mem" : (r2, or2) ∈ _)) hor2 hvr2) (reads_prs (h14.get (by walk_at "mem" : (S2, os2) ∈ _)) hos2 hprs2 fun p hp => h14.get (.tail _ (.tail _ (.tail _ (.tail _ (List.mem_append_left _ hp)))))))
      (reads_pair (h14.get (.head _)) hN (reads_strs (h14.get (mT _ (.tail _ (.head _)))) hor hvw) (reads_prs (h14.get (mT _ (.tail _ (.tail _ (.head _))))) hos hprs fun p hp => h14.get (mT _ (.tail _ (.tail _ (.tail _ (List.mem_append_left _ hp)))))))
      (dPair_ok (dStrs_ok (okB_small hok2.1)) (dPrs_ok _)) (R.mono (by decide) : Room A (0 + 8)).units64 ?_
    walk_at "pms"
    refine r_callRef (by assumption) rfl ?_
    rename Loc _ _ _ _ _ _ _ _ => h15
    refine struck_ok h15.toBase (R.mono (by decide)) (h15.get (mT _ (.tail _ (.head _)))) hor hvw (by omega) (fun b hb => (hok2.1 b hb).2.1) fun T3 oT3 td3 otd3 vt3 y3 t3 s16 hc16 hT3 hotd3 hvt3 hy3 hst16 => ?_
    rw [fx_st X i hi] at hvt3 hy3
    have h16 := (h15.calm hc16).addAll hst16 (by
      intro p hp
      simp only [List.mem_cons, List.not_mem_nil, or_false] at hp
      rcases hp with rfl | rfl
      · exact hT3.seq
      · exact hotd3.seq)
    replace h16 : Loc w s L _ ((T3, oT3) :: (td3, otd3) :: (N, oN) :: (T2, oT2) :: (r2, or2) :: (S2, os2) :: (Ts2 ++ (T, oT) :: (r, or) :: (S, os) :: (Ts ++ (rs, ors) :: Es))) _ _ _ := h16
    walk_at "pms"
    rename_i N2 oN2 s17 hN2 hNd2 h17
    have mT2 : ∀ p, p ∈ (T, oT) :: (r, or) :: (S, os) :: (Ts ++ (rs, ors) :: Es) → p ∈ (N2, oN2) :: (T3, oT3) :: (td3, otd3) :: (N, oN) :: (T2, oT2) :: (r2, or2) :: (S2, os2) :: (Ts2 ++ (T, oT) :: (r, or) :: (S, os) :: (Ts ++ (rs, ors) :: Es)) := fun p hp => .tail _ (.tail _ (.tail _ (.tail _ (.tail _ (.tail _ (.tail _ (List.mem_append_right _ hp)))))))
    have hrsm : (rs, ors) ∈ (T, oT) :: (r, or) :: (S, os) :: (Ts ++ (rs, ors) :: Es) := .tail _ (.tail _ (.tail _ (List.mem_append_right _ (.head _))))
    have htdm : (td, otd) ∈ (T, oT) :: (r, or) :: (S, os) :: (Ts ++ (rs, ors) :: Es) := .tail _ (.tail _ (.tail _ (List.mem_append_right _ (.tail _ htd))))
    have hrsmall : ∀ c ∈ (struckF (row0 ns B)).2, c < 1114112 := fun c hc => by
      rw [show (struckF (row0 ns B)).2 = _ from X.rest] at hc
      rcases List.mem_append.mp hc with hc | hc
      · rw [List.eq_of_mem_replicate hc]; decide
      · rw [List.mem_singleton.mp hc]; decide
    refine r_ne_same (d := .tuple [dNums (struckF (row0 ns B)).1, dStr (struckF (row0 ns B)).2])
      (reads_pair (h17.get (by walk_at "mem" : (T3, oT3) ∈ _)) hT3 (reads_nums (h17.get (by walk_at "mem" : (td3, otd3) ∈ _)) hotd3 hvt3) (by rw [← hy3]; exact reads_str y3 t3))
      (reads_pair (h17.get (.head _)) hN2 (reads_nums (h17.get (mT2 _ htdm)) hotd hvt) (by rw [← hS.hrest]; exact reads_str yr tr))
      (dPair_ok (dNums_ok _) ⟨(dStr_ok hrsmall).1, by rw [(dStr_ok hrsmall).2]; decide⟩) (R.mono (by decide) : Room A (0 + 8)).units64 ?_
    walk_at "pms"
    refine r_getappend (by assumption) (mT2 _ hrsm) hors ?_
    walk_at "pms"
    rename Loc _ _ _ _ _ _ _ _ => h18
    show wpAny _ _ (call (.builtin "list.append") [.ref rs, .ref r]) _ _ _
    have hrrs : r ≠ rs := by
      intro q
      have e1 := h18.get (mT2 _ hrsm)
      have e2 := h18.get (mT2 _ (.tail _ (.head _)))
      rw [q, e1] at e2
      have e4 : ors = or := Option.some.inj e2
      obtain ⟨n, hn⟩ := hor.data
      obtain ⟨k, hk⟩ := hors
      rw [← e4, hk] at hn
      injection hn with hn
      have e3 : vr' ++ [Value.ref ri] = vw := by simpa using congrArg Array.toList hn
      obtain ⟨ys, hys, _⟩ := hvw
      have hin : Value.ref ri ∈ strValues ys := by rw [← hys, ← e3]; simp
      obtain ⟨p, _, hp⟩ := List.mem_map.mp hin
      cases hp
    refine r_append (D := (r, or) :: Es) (h18.sub fun p hp => by
      simp only [List.mem_cons] at hp
      rcases hp with rfl | rfl | hp
      · exact mT2 _ hrsm
      · exact mT2 _ (.tail _ (.head _))
      · exact mT2 _ (.tail _ (.tail _ (.tail _ (List.mem_append_right _ (.tail _ hp)))))) hors (.head _) hrs0 (by
      intro p hp
      rcases List.mem_cons.mp hp with rfl | hp
      · exact hrrs
      · exact (hEs p hp).1) (by rw [hrl, sizeLine_eq]; omega) fun ors' s19 hors' h19 => ?_
    walk_at "pms"
    rename Loc _ _ _ _ _ _ _ _ => h20
    refine ⟨_, _, ?_, h20⟩
    refine ⟨ors', _, (r, or) :: Es, rfl, hors', ?_, .tail _ htd, ?_, ⟨by walk_at "lk", by walk_at "lk", by walk_at "lk", by walk_at "lk", hS.hrest⟩⟩
    · rw [RsAt_succ]
      exact hrw'.snoc (fun p hp => .tail _ hp) (.head _) hrrs hor hvw
    · intro p hp
      rcases List.mem_cons.mp hp with rfl | hp
      · exact ⟨hrrs, hor.seq⟩
      · exact hEs p hp
  · rintro m' D' s6 hJ' h6
    exact g m' D' s6 hJ' h6

set_option maxHeartbeats 4000000 in
theorem law_pops {w : World} {A : Around} {s sr s1 : Shared} {L fa rs td : Addr} {cd : Value} {m : Str → Option Value} {D : List (Addr × Obj)} {otd : Obj} {yr : Str} {tr tB : Tok} {ns : List Int} {B laid : Nat} {Q : Flow → Shared → Prop} (R : Room A 11)
    (h : Loc w s L m D [rs] sr s1) (hJ : StpJ ns B rs td otd yr tr tB 2 m D) (hrs0 : s.heap.get? rs = none) (X : Facts (drawnL ns) B laid)
    (g : ∀ m' D' s2, Loc w s L m' D' [rs] sr s2 → Q .next s2) :
    wpAny (model Challenge.rw_pm0006_01.row.prog w) A (exec (stAt (pmBody 12) 10) (lawEnv L fa cd)) Q FF s1 := by
  show wpAny _ _ (exec (.For _ _ _ _ _) _) _ _ _
  refine wpAny_For ?_
  walk_at "pms"
  rename_i t0 s4 h4
  refine call_range_1 ?_
  have h5 := h4.grow { cls := .type "range", data := .fields #[.int 0 s4.toks, .int 2 t0, .int 1 (s4.toks + 1)] } (s4.toks + 1 + 1)
  have hrslt : rs < s4.heap.objs.size := by
    obtain ⟨ors, vr, Es, rfl, _⟩ := hJ.ex
    exact h4.lt _ (.head _)
  refine range_loop (r := s4.heap.objs.size) (a := ((0 : Nat) : Int)) (b := ((2 : Nat) : Int)) (W := [rs]) (fun i m' D' => StpJ ns B rs td otd yr tr tB (2 - i) m' D') 2 R.1 (Heap.get?_push_size s4.heap rfl) (range_small1 (by decide) (by decide)) (by rw [range_size1]) ?_ ?_ ?_ ?_ hJ h5
  · intro b hb
    rw [List.mem_singleton.mp hb]
    exact Nat.lt_of_lt_of_le hrslt (by simp [Heap.push])
  · rintro i m' D' ⟨ors, vr, Es, rfl, hors, _, _, hEs, _⟩ p hp
    rcases List.mem_cons.mp hp with rfl | hp
    · exact hors.seq
    · exact (hEs p hp).2
  · rintro i tk m' D' s6 hi ⟨ors, vr, Es, rfl, hors, hrw, htd, hEs, hS⟩ h6 back
    obtain ⟨k, hk⟩ : ∃ k, 2 - i = k + 1 := ⟨2 - i - 1, by omega⟩
    have hki : 2 - (i + 1) = k := by omega
    have hk2 : k < 2 := by omega
    rw [hk, RsAt_succ] at hrw
    rw [hki]
    have hmr := hS.rows
    have hrl := hrw.len
    obtain ⟨vr', ri, oi, us, rfl, hrw2, hri, hrirs, hoi, hus⟩ := hrw.split
    have hrl2 : (RsAt ns B k).length = k + 1 := by simp [RsAt]
    have hrl3 := hrw2.len
    obtain ⟨Rs, hRs⟩ := RsAt_last ns B k
    have hrw3 := hrw2
    rw [hRs] at hrw3
    obtain ⟨vr'', rj, oj, us2, hvr'', hrw4, hrj, hrjrs, hoj, hus2⟩ := hrw3.split
    have hok := Rk_ok X (k + 1)
    have hok2 := Rk_ok X k
    walk_at "pms"
    refine r_getpop (by assumption) (.head _) hors ?_
    walk_at "pms"
    rename Loc _ _ _ _ _ _ _ _ => h7
    show wpAny _ _ (call (.builtin "list.pop") [.ref rs]) _ _ _
    refine r_pop h7 hors (.head _) hrs0 (fun p hp => (hEs p hp).1) (by rw [hrl3, sizeLine_eq]; omega) fun ors' s8 hors' h8 => ?_
    rw [hvr''] at hors'
    walk_at "pms"
    refine r_neg_int (by assumption) fun t9 s9 h9 => ?_
    walk_at "pms"
    refine r_list_slice (by assumption) (.tail _ hri) hoi .none .none (.int _ _) (by decide) (by rw [hus.len, sizeLine_eq]; omega) ?_
    intro P oP s10 hoP hPd hP0 h10
    have hvP := strs_rev hus
    walk_at "pms"
    refine r_callRef (by assumption) rfl ?_
    rename Loc _ _ _ _ _ _ _ _ => h11
    refine exchanged_ok h11.toBase (R.mono (by decide)) (h11.get (.head _)) hoP hvP (by rw [List.length_reverse]; omega) (fun b hb => ⟨(hok.1 b (List.mem_reverse.mp hb)).1, (hok.1 b (List.mem_reverse.mp hb)).2.1⟩) fun T2 oT2 r2 or2 S2 os2 Ts2 vr2 vs2 s13 hc13 hT2 hor2 hos2 hvr2 hprs2 hTs2 hst13 => ?_
    have h13 := ((h11.calm hc13).addAll (D' := [(T2, oT2), (r2, or2)]) (by
      intro p hp
      simp only [List.mem_cons, List.not_mem_nil, or_false] at hp
      rcases hp with rfl | rfl
      · exact hst13 _ (.head _)
      · exact hst13 _ (.tail _ (.head _))) (by
      intro p hp
      simp only [List.mem_cons, List.not_mem_nil, or_false] at hp
      rcases hp with rfl | rfl
      · exact hT2.seq
      · exact hor2.seq))
    replace h13 : Loc w s L _ ((T2, oT2) :: (r2, or2) :: (P, oP) :: (rs, ors') :: Es) _ _ _ := h13
    walk_at "pms"
    refine r_tuple_item (x := .ref r2) (by assumption) (.head _) hT2 (by decide) (by decide) rfl rfl ?_
    walk_at "pms"
    refine r_neg_int (by assumption) fun t14 s14 h14 => ?_
    walk_at "pms"
    refine r_list_slice (by assumption) (by walk_at "mem" : (r2, or2) ∈ _) hor2 .none .none (.int _ _) (by decide) (by have h1 := hvr2.len; have h2 := congrArg List.length (fx_rv X k hk2); rw [List.length_reverse] at h2; rw [sizeLine_eq]; omega) ?_
    intro P2 oP2 s15 hoP2 hPd2 hP20 h15
    have hvP2 := strs_rev hvr2
    rw [fx_rv X k hk2] at hvP2
    walk_at "pms"
    refine r_neg_int (by assumption) fun t16 s16 h16 => ?_
    refine r_list_last h16 (by walk_at "mem" : (rs, ors') ∈ _) hors'.weak ?_
    refine r_ne_same (d := dStrs (Rk ns B k)) (reads_strs (h16.get (.head _)) hoP2 hvP2) (reads_strs (h16.get (.tail _ (.tail _ (.tail _ (.tail _ (.tail _ hrj)))))) hoj hus2) (by have := dStrs_ok (okB_small hok2.1); exact ⟨this.1, by omega⟩) (R.mono (by decide) : Room A (0 + 8)).units64 ?_
    walk_at "pms"
    rename Loc _ _ _ _ _ _ _ _ => h17
    refine ⟨_, (rs, ors') :: Es, ?_, h17.sub fun p hp => .tail _ (.tail _ (.tail _ (.tail _ hp)))⟩
    refine ⟨ors', _, Es, rfl, hors', hvr'' ▸ hrw2, htd, hEs, ?_⟩
    exact ⟨(upd_ne (by decide)).trans ((upd_ne (by decide)).trans hS.balls), (upd_ne (by decide)).trans ((upd_ne (by decide)).trans hS.rows), (upd_ne (by decide)).trans ((upd_ne (by decide)).trans hS.told), (upd_ne (by decide)).trans ((upd_ne (by decide)).trans hS.rest), hS.hrest⟩
  · rintro m' D' s6 hJ' h6
    exact g m' D' s6 h6

set_option maxHeartbeats 4000000 in
theorem law_ok {w : World} {A : Around} {s s1 : Shared} {L fa l : Addr} {cd : Value} {m : Str → Option Value} {vs : List Value} {ns : List Int} {B laid : Nat} {Q : Flow → Shared → Prop} (R : Room A 11) (h : Loc w s L m [] [] s1 s1)
    (hl : s1.heap.IsList l vs.toArray) (hI : IntsAre vs ns) (hn : vs.length ≤ 63) (hm : m (Str.ofString "script") = some (.ref l)) (X : Facts (drawnL ns) B laid)
    (g : ∀ s', Calm s s' → Q (.ret (.bool true)) s') : wpAny (model Challenge.rw_pm0006_01.row.prog w) A (execs (pmBody 12) (lawEnv L fa cd)) Q FF s1 := by
  show wpAny _ _ (execs [stAt (pmBody 12) 0, stAt (pmBody 12) 1, stAt (pmBody 12) 2, stAt (pmBody 12) 3, stAt (pmBody 12) 4, stAt (pmBody 12) 5, stAt (pmBody 12) 6, stAt (pmBody 12) 7, stAt (pmBody 12) 8, stAt (pmBody 12) 9, stAt (pmBody 12) 10, stAt (pmBody 12) 11] _) _ _ _
  refine wpAny_execs_cons (law_draw R h hl hI hn hm fun d od vd s2 hod hvd h2 => ?_)
  refine law_count R h2 hod hvd X (upd_same _ _ _) fun m3 s3 hS1 h3 => ?_
  refine wpAny_execs_cons (law_ask R h3 hod hvd X hS1 fun m4 s4 hS4 h4 => ?_)
  refine law_rows R h4 hod hvd X hS4 fun rs ors r0 or0 v0 td otd vt yr tr tB m5 s5 hors hrs0 hor0 hv0 hotd hvt hS5 hr0rs htdrs h5 => ?_
  refine wpAny_execs_cons (law_rooms R h5 hors hor0 hv0 hotd hvt X hS5 fun m6 s6 hS6 h6 => ?_)
  have hJ : StpJ ns B rs td otd yr tr tB 0 m6 [(rs, ors), (r0, or0), (td, otd)] := by
    refine ⟨ors, _, [(r0, or0), (td, otd)], rfl, hors, ⟨[(r0, or0, row0 ns B)], rfl, rfl, fun a ha => ?_⟩, .tail _ (.head _), fun p hp => ?_, hS6⟩
    · rw [List.mem_singleton.mp ha]
      exact ⟨.head _, hr0rs, v0, hor0, hv0⟩
    · simp only [List.mem_cons, List.not_mem_nil, or_false] at hp
      rcases hp with rfl | rfl
      · exact ⟨hr0rs, hor0.seq⟩
      · exact ⟨htdrs, hotd.seq⟩
  refine wpAny_execs_cons (law_steps R (h6.weakW (fun b hb => nomatch hb)) hJ hrs0 hotd hvt X fun m7 D7 s7 hJ7 h7 => ?_)
  refine wpAny_execs_cons (law_pops R h7 hJ7 hrs0 X fun m8 D8 s8 h8 => ?_)
  show wpAny _ _ (execs (.Return _ _ :: []) _) _ _ _
  walk_at "pms"
  exact g _ h8.done

/-- a box: a bracket and a tail -/
def mk (p : Bool × List Nat) : List Nat := bra p.1 :: p.2
def tails : List (List Nat) := [[], [97], [92, 41], [92, 40], [34, 41, 34], [34, 40, 34], [34, 40, 92, 34, 34], [34, 41, 92, 34, 34]]
def okT (ts : List (Bool × List Nat)) : Prop := ∀ p ∈ ts, p.2 ∈ tails
def flp (f : Bool) (p : Bool × List Nat) : Bool × List Nat := if f then (!p.1, p.2.map swp) else p
def apF (fl : List Bool) (ts : List (Bool × List Nat)) : List (Bool × List Nat) := List.zipWith flp fl ts

theorem tails_swp : ∀ t ∈ tails, t.map swp ∈ tails := by decide
theorem mk_swp (p : Bool × List Nat) : (mk p).map swp = mk (flp true p) := by
  obtain ⟨b, t⟩ := p
  cases b <;> rfl
theorem isB_mk (p : Bool × List Nat) : isB (mk p) = p.1 := by
  obtain ⟨b, t⟩ := p
  cases b <;> rfl
theorem swp_swp (c : Nat) : swp (swp c) = c := by
  unfold swp
  by_cases h : c = 40
  · subst h; rfl
  · by_cases h' : c = 41
    · subst h'; rfl
    · simp [h, h']
theorem flp_ok {f : Bool} {p : Bool × List Nat} (h : p.2 ∈ tails) : (flp f p).2 ∈ tails := by
  cases f
  · exact h
  · exact tails_swp _ h
theorem apF_ok {fl : List Bool} {ts : List (Bool × List Nat)} (h : okT ts) : okT (apF fl ts) := by
  induction ts generalizing fl with
  | nil => cases fl <;> (intro p hp; simp [apF] at hp)
  | cons t ts ih =>
    cases fl with
    | nil => intro p hp; simp [apF] at hp
    | cons f fl =>
      intro p hp
      rcases List.mem_cons.mp hp with rfl | hp
      · exact flp_ok (h t (.head _))
      · exact ih (fun q hq => h q (.tail _ hq)) p hp
theorem flp_flp (f g : Bool) (p : Bool × List Nat) : flp f (flp g p) = flp (f ^^ g) p := by
  obtain ⟨b, t⟩ := p
  have e : (t.map swp).map swp = t := by rw [List.map_map]; conv => rhs; rw [← List.map_id t]
                                         apply List.map_congr_left; intro c _; exact swp_swp c
  rw [List.map_map] at e
  cases f <;> cases g <;> simp [flp]
  exact e
theorem apF_apF : ∀ (f g : List Bool) (ts : List (Bool × List Nat)), f.length = ts.length → g.length = ts.length → apF f (apF g ts) = apF (List.zipWith (· ^^ ·) f g) ts
  | [], g, ts, hf, _ => by
    have : ts = [] := List.eq_nil_of_length_eq_zero hf.symm
    subst this
    simp [apF]
  | f :: fs, [], ts, hf, hg => by
    have : ts = [] := List.eq_nil_of_length_eq_zero hg.symm
    subst this
    simp [apF]
  | f :: fs, g :: gs, [], hf, _ => by simp [apF]
  | f :: fs, g :: gs, t :: ts, hf, hg => by
    have ih := apF_apF fs gs ts (by simpa using hf) (by simpa using hg)
    unfold apF at ih ⊢
    simp only [List.zipWith_cons_cons, flp_flp, ih]
theorem apF_false : ∀ (ts : List (Bool × List Nat)), apF (List.replicate ts.length false) ts = ts
  | [] => rfl
  | t :: ts => by
    have ih := apF_false ts
    unfold apF at ih ⊢
    rw [List.length_cons, List.replicate_succ, List.zipWith_cons_cons, ih]
    rfl
theorem apF_rev {f : List Bool} {ts : List (Bool × List Nat)} (h : f.length = ts.length) : (apF f ts).reverse = apF f.reverse ts.reverse := by
  unfold apF
  rw [List.reverse_zipWith h]
theorem apF_fst : ∀ (f : List Bool) (ts : List (Bool × List Nat)), f.length = ts.length → (apF f ts).map (·.1) = List.zipWith (· ^^ ·) f (ts.map (·.1))
  | [], ts, h => by simp [apF]
  | f :: fs, [], h => by simp [apF]
  | f :: fs, t :: ts, h => by
    have ih := apF_fst fs ts (by simpa using h)
    unfold apF at ih ⊢
    simp only [List.zipWith_cons_cons, List.map_cons, ih]
    congr 1
    cases f <;> simp [flp]
theorem apF_len {f : List Bool} {ts : List (Bool × List Nat)} (h : f.length = ts.length) : (apF f ts).length = ts.length := by
  unfold apF
  rw [List.length_zipWith, h, Nat.min_self]

/-- the carrier, on the brackets alone: who is turned, how many taken, the stretches -/
def carB (k : Nat) : Nat → Nat → Nat → List Bool → List Bool × Nat × List (Nat × Nat)
  | _, _, _, [] => ([], 0, [])
  | load, begun, i, b :: v =>
    if (if b then decide (load < k) else decide (0 < load)) then
      if b then
        (true :: (carB k (load + 1) (if load = 0 then i else begun) (i + 1) v).1, (carB k (load + 1) (if load = 0 then i else begun) (i + 1) v).2.1 + 1, (carB k (load + 1) (if load = 0 then i else begun) (i + 1) v).2.2)
      else
        (true :: (carB k (load - 1) begun (i + 1) v).1, (carB k (load - 1) begun (i + 1) v).2.1, if load - 1 = 0 then (begun, i + 1) :: (carB k (load - 1) begun (i + 1) v).2.2 else (carB k (load - 1) begun (i + 1) v).2.2)
    else (false :: (carB k load begun (i + 1) v).1, (carB k load begun (i + 1) v).2.1, (carB k load begun (i + 1) v).2.2)
theorem carB_len (k : Nat) : ∀ (v : List Bool) (load begun i : Nat), (carB k load begun i v).1.length = v.length
  | [], _, _, _ => rfl
  | b :: v, load, begun, i => by
    unfold carB
    cases b with
    | true =>
      by_cases h : load < k
      · simp [h, carB_len k v]
      · simp [h, carB_len k v]
    | false =>
      by_cases h : 0 < load
      · simp [h, carB_len k v]
      · simp [h, carB_len k v]
theorem carRun_B (k : Nat) : ∀ (ts : List (Bool × List Nat)) (σ : Car) (i : Nat),
    (carRun k σ i (ts.map mk)).row = σ.row ++ (apF (carB k σ.load σ.begun i (ts.map (·.1))).1 ts).map mk ∧ (carRun k σ i (ts.map mk)).taken = σ.taken + (carB k σ.load σ.begun i (ts.map (·.1))).2.1 ∧
    (carRun k σ i (ts.map mk)).st = σ.st ++ (carB k σ.load σ.begun i (ts.map (·.1))).2.2
  | [], σ, i => by simp [carRun, carB, apF]
  | t :: ts, σ, i => by
    obtain ⟨ih1, ih2, ih3⟩ := carRun_B k ts (carStep k σ i (mk t)) (i + 1)
    have e : carRun k σ i ((t :: ts).map mk) = carRun k (carStep k σ i (mk t)) (i + 1) (ts.map mk) := rfl
    rw [e, ih1, ih2, ih3]
    obtain ⟨b, tl⟩ := t
    simp only [List.map_cons]
    unfold carStep
    simp only [isB_mk]
    cases b with
    | true =>
      by_cases h : σ.load < k
      · simp [h, carB, apF, flp, mk_swp]; omega
      · simp [h, carB, apF, flp]
    | false =>
      by_cases h : 0 < σ.load
      · by_cases h0 : σ.load - 1 = 0
        · simp [h, h0, carB, apF, flp, mk_swp]
        · simp [h, h0, carB, apF, flp, mk_swp]
      · simp [h, carB, apF, flp]
theorem rowOf_B (k : Nat) (ts : List (Bool × List Nat)) : (rowOf k (ts.map mk)).row = (apF (carB k 0 0 0 (ts.map (·.1))).1 ts).map mk ∧ (rowOf k (ts.map mk)).taken = (carB k 0 0 0 (ts.map (·.1))).2.1 ∧ (rowOf k (ts.map mk)).st = (carB k 0 0 0 (ts.map (·.1))).2.2 := by
  have := carRun_B k ts car0 0
  simpa [car0, rowOf] using this

def sT (t : List Nat) : List Nat := if t.head? = some 34 then [] else t
def smk (p : Bool × List Nat) : List Nat := bra p.1 :: sT p.2
theorem strip_box (p : Bool × List Nat) (h : p.2 ∈ tails) (r : List Nat) : stripA false none (mk p ++ r) = smk p ++ stripA false none r := by
  obtain ⟨b, t⟩ := p
  simp only [tails, List.mem_cons, List.not_mem_nil, or_false] at h
  rcases h with rfl | rfl | rfl | rfl | rfl | rfl | rfl | rfl <;> cases b <;> simp [mk, smk, sT, bra, stripA]
theorem strip_boxes : ∀ (ts : List (Bool × List Nat)), okT ts → ∀ r, stripA false none ((ts.map mk).flatten ++ r) = (ts.map smk).flatten ++ stripA false none r
  | [], _, r => rfl
  | t :: ts, h, r => by
    simp only [List.map_cons, List.flatten_cons, List.append_assoc]
    rw [strip_box t (h t (.head _)), strip_boxes ts fun p hp => h p (.tail _ hp)]
theorem stripA_buf : ∀ (l : List Nat) (e : Bool) (b : List Nat), 34 ∉ l → stripA e (some b) l = b ++ l
  | [], e, b, _ => by cases e <;> simp [stripA]
  | c :: l, true, b, h => by
    rw [stripA, stripA_buf l false _ fun q => h (.tail _ q)]
    simp
  | c :: l, false, b, h => by
    have h1 : c ≠ 34 := fun q => h (q ▸ .head _)
    rw [stripA, if_neg h1, stripA_buf l _ _ fun q => h (.tail _ q)]
    simp

/-- check, sign by sign -/
def ckA : Bool → Int → List Nat → Bool
  | _, n, [] => n == 0
  | true, n, _ :: l => ckA false n l
  | false, n, c :: l => if c = 92 then ckA true n l else if c = 40 then ckA false (n + 1) l else if c = 41 then (if n - 1 < 0 then false else ckA false (n - 1) l) else ckA false n l
theorem ckF_A : ∀ (l : List Nat) (i : Nat) (e : Bool) (n : Int), ckF (itemsF l i e) n = ckA e n l
  | [], i, e, n => by cases e <;> simp [itemsF, ckF, ckA]
  | c :: l, i, true, n => by simp [itemsF, ckF, ckA, ckF_A l]
  | c :: l, i, false, n => by
    by_cases h : c = 92
    · simp [itemsF, ckA, h, ckF_A l]
    · simp [itemsF, ckF, ckA, h, ckF_A l]
theorem checkF_A (l : List Nat) : checkF l = ckA false 0 (stripA false none l) := by
  unfold checkF
  rw [ckF_A, stripF_eq]

/-- brackets alone -/
def balR : List Bool → Nat → Option Nat
  | [], n => some n
  | true :: v, n => balR v (n + 1)
  | false :: _, 0 => none
  | false :: v, n + 1 => balR v n
def ckN (o : Option Nat) (r : List Nat) : Bool := match o with
  | none => false
  | some n => ckA false (n : Int) r
theorem ck_true (n : Nat) (l : List Nat) : ckA false (n : Int) (40 :: l) = ckA false ((n + 1 : Nat) : Int) l := by
  simp [ckA]
theorem ck_false0 (l : List Nat) : ckA false ((0 : Nat) : Int) (41 :: l) = false := by
  simp [ckA]
theorem ck_false1 (n : Nat) (l : List Nat) : ckA false ((n + 1 : Nat) : Int) (41 :: l) = ckA false (n : Int) l := by
  have h : ¬ (((n + 1 : Nat) : Int) - 1 < 0) := by omega
  have h2 : ((n + 1 : Nat) : Int) - 1 = (n : Int) := by omega
  rw [ckA, if_neg (by decide), if_neg (by decide), if_pos rfl, if_neg h, h2]
theorem ck_tail (p : Bool × List Nat) (h : p.2 ∈ tails) (n : Nat) (r : List Nat) : ckA false (n : Int) (sT p.2 ++ r) = ckA false (n : Int) r := by
  obtain ⟨b, t⟩ := p
  simp only [tails, List.mem_cons, List.not_mem_nil, or_false] at h
  rcases h with rfl | rfl | rfl | rfl | rfl | rfl | rfl | rfl <;> simp [sT, ckA]
theorem ck_boxes : ∀ (ts : List (Bool × List Nat)), okT ts → ∀ (n : Nat) (r : List Nat), ckA false (n : Int) ((ts.map smk).flatten ++ r) = ckN (balR (ts.map (·.1)) n) r
  | [], _, n, r => rfl
  | t :: ts, h, n, r => by
    have ih := ck_boxes ts fun p hp => h p (.tail _ hp)
    simp only [List.map_cons, List.flatten_cons, List.append_assoc]
    obtain ⟨b, tl⟩ := t
    cases b with
    | true =>
      show ckA false (n : Int) (40 :: (sT tl ++ _)) = _
      rw [ck_true, ck_tail (true, tl) (h _ (.head _)), ih]
      rfl
    | false =>
      cases n with
      | zero =>
        show ckA false ((0 : Nat) : Int) (41 :: (sT tl ++ _)) = _
        rw [ck_false0]
        rfl
      | succ n =>
        show ckA false ((n + 1 : Nat) : Int) (41 :: (sT tl ++ _)) = _
        rw [ck_false1, ck_tail (false, tl) (h _ (.head _)), ih]
        rfl
theorem bra_smk (v : List Bool) : ((v.map fun b => (b, ([] : List Nat))).map smk).flatten = v.map bra := by
  induction v with
  | nil => rfl
  | cons b v ih => simp only [List.map_cons, List.flatten_cons]; rw [ih]; rfl
/-- plain brackets -/
theorem ck_bras : ∀ (v : List Bool) (n : Nat) (r : List Nat), ckA false (n : Int) (v.map bra ++ r) = ckN (balR v n) r := fun v n r => by
  have := ck_boxes (v.map fun b => (b, [])) (fun p hp => by
    obtain ⟨b, _, rfl⟩ := List.mem_map.mp hp
    exact .head _) n r
  have e2 : (v.map fun b => (b, ([] : List Nat))).map (·.1) = v := by simp [Function.comp_def]
  rw [bra_smk, e2] at this
  exact this
def balB (v : List Bool) : Bool := balR v 0 == some 0
theorem check_boxes (ts : List (Bool × List Nat)) (h : okT ts) : checkF (ts.map mk).flatten = balB (ts.map (·.1)) := by
  rw [checkF_A]
  have h1 := strip_boxes ts h []
  rw [List.append_nil] at h1
  rw [h1]
  have h2 := ck_boxes ts h 0 (stripA false none [])
  rw [show ((0 : Nat) : Int) = 0 from rfl] at h2
  rw [h2]
  unfold balB
  cases balR (ts.map (·.1)) 0 with
  | none => rfl
  | some n => cases n with
    | zero => simp [ckN, ckA, stripA]
    | succ n =>
      simp [ckN, ckA, stripA]
      omega
theorem balR_app : ∀ (v u : List Bool) (n : Nat), balR (v ++ u) n = (balR v n).bind (balR u)
  | [], u, n => rfl
  | true :: v, u, n => balR_app v u (n + 1)
  | false :: v, u, 0 => rfl
  | false :: v, u, n + 1 => balR_app v u n
theorem ckN_bras (o : Option Nat) (v : List Bool) (r : List Nat) : ckN o (v.map bra ++ r) = ckN (o.bind (balR v)) r := by
  cases o with
  | none => rfl
  | some n => exact ck_bras v n r
theorem ckN_boxes (o : Option Nat) (ts : List (Bool × List Nat)) (h : okT ts) (r : List Nat) : ckN o ((ts.map smk).flatten ++ r) = ckN (o.bind (balR (ts.map (·.1)))) r := by
  cases o with
  | none => rfl
  | some n => exact ck_boxes ts h n r
theorem asked_eq (ts : List (Bool × List Nat)) (h : okT ts) (x y z : Nat) :
    checkF ([34, 40, 34, 40, 41] ++ List.replicate x 40 ++ [41] ++ (ts.map mk).flatten ++ [34, 92, 92] ++ List.replicate y 41 ++ List.replicate z 40 ++ [92]) =
      balB ([true, false] ++ List.replicate x true ++ [false] ++ ts.map (·.1) ++ List.replicate y false ++ List.replicate z true) := by
  have b40 : ∀ k, List.replicate k 40 = (List.replicate k true).map bra := fun k => by simp [bra]
  have b41 : ∀ k, List.replicate k 41 = (List.replicate k false).map bra := fun k => by simp [bra]
  have hpre : ∀ r, stripA false none ([34, 40, 34, 40, 41] ++ List.replicate x 40 ++ [41] ++ r) = ([true, false] ++ List.replicate x true ++ [false]).map bra ++ stripA false none r := fun r => by
    have h1 := strip_boxes ((([true, false] ++ List.replicate x true ++ [false]).map fun b => (b, ([] : List Nat)))) (fun p hp => by
      obtain ⟨b, _, rfl⟩ := List.mem_map.mp hp
      exact .head _) r
    have e1 : ∀ v : List Bool, ((v.map fun b => (b, ([] : List Nat))).map smk).flatten = v.map bra := fun v => by
      induction v with
      | nil => rfl
      | cons b v ih => simp only [List.map_cons, List.flatten_cons]; rw [ih]; rfl
    have e2 : ∀ v : List Bool, ((v.map fun b => (b, ([] : List Nat))).map mk).flatten = v.map bra := fun v => by
      induction v with
      | nil => rfl
      | cons b v ih => simp only [List.map_cons, List.flatten_cons]; rw [ih]; rfl
    rw [e1, e2] at h1
    rw [← h1]
    simp [stripA, bra]
  rw [checkF_A]
  simp only [List.append_assoc] at hpre ⊢
  rw [hpre, strip_boxes ts h]
  have h92 : stripA false none ([34, 92, 92] ++ (List.replicate y 41 ++ (List.replicate z 40 ++ [92]))) = [34, 92, 92] ++ (List.replicate y 41 ++ (List.replicate z 40 ++ [92])) := by
    show stripA false (some [34]) ([92, 92] ++ (List.replicate y 41 ++ (List.replicate z 40 ++ [92]))) = _
    rw [stripA_buf]
    · rfl
    · simp
  rw [h92, show (0 : Int) = ((0 : Nat) : Int) from rfl, ck_bras, ckN_boxes _ ts h]
  have hq : ∀ (o : Option Nat) (r : List Nat), ckN o ([34, 92, 92] ++ r) = ckN o r := fun o r => by
    cases o with
    | none => rfl
    | some n => simp [ckN, ckA]
  rw [hq, b41, ckN_bras, b40, ckN_bras]
  have hl : ∀ o : Option Nat, ckN o [92] = (o == some 0) := fun o => by
    cases o with
    | none => rfl
    | some n => cases n with
      | zero => simp [ckN, ckA]
      | succ n =>
        simp [ckN, ckA]
        omega
  rw [hl]
  unfold balB
  simp only [← List.append_assoc]
  simp only [balR_app]

def remL (y : List Nat) (l : List Nat) : List Nat := replL y [] l
theorem rem_nil (y : List Nat) : remL y [] = [] := by simp [remL, replL, splitL, joinL]
theorem rem_hit {y l : List Nat} {c : Nat} (h : (c :: l).take y.length = y) : remL y (c :: l) = remL y (l.drop (y.length - 1)) := by
  unfold remL replL
  rw [splitL_hit h, splitL_skip, joinL_nil, joinL_nil]
  rfl
theorem rem_miss {y l : List Nat} {c : Nat} (h : (c :: l).take y.length ≠ y) : remL y (c :: l) = c :: remL y l := by
  obtain ⟨p, r, e⟩ := splitL_ne y 0 l
  unfold remL replL
  rw [splitL_miss h e, joinL_nil, joinL_nil, e]
  rfl
theorem rem_head {y0 c : Nat} {y l : List Nat} (h : c ≠ y0) : remL (y0 :: y) (c :: l) = c :: remL (y0 :: y) l := rem_miss (by
  intro q
  rw [List.length_cons, List.take_succ_cons] at q
  injection q with q _
  exact h q)

theorem bra_ne (b : Bool) {c : Nat} (h1 : c ≠ 40) (h2 : c ≠ 41) : bra b ≠ c := by
  cases b
  · exact Ne.symm h2
  · exact Ne.symm h1

def q0 : List (List Nat) := [[], [97], [92, 41], [92, 40]]
def q1 : List (List Nat) := [[], [97], [92, 41]]
def q2 : List (List Nat) := [[], [97]]
theorem rem_box0 (b : Bool) {t : List Nat} (h : t ∈ q0) (r : List Nat) : ∃ t' ∈ q1, remL [92, 40] (bra b :: (t ++ r)) = bra b :: (t' ++ remL [92, 40] r) := by
  rw [rem_head (bra_ne b (by decide) (by decide))]
  simp only [q0, List.mem_cons, List.not_mem_nil, or_false] at h
  rcases h with rfl | rfl | rfl | rfl
  · exact ⟨[], by decide, rfl⟩
  · exact ⟨[97], by decide, by rw [show ([97] : List Nat) ++ r = 97 :: r from rfl, rem_head (by decide)]; rfl⟩
  · exact ⟨[92, 41], by decide, by rw [show ([92, 41] : List Nat) ++ r = 92 :: 41 :: r from rfl, rem_miss (by simp), rem_head (by decide)]; rfl⟩
  · exact ⟨[], by decide, by rw [show ([92, 40] : List Nat) ++ r = 92 :: 40 :: r from rfl, rem_hit (by simp)]; rfl⟩
theorem rem_box1 (b : Bool) {t : List Nat} (h : t ∈ q1) (r : List Nat) : ∃ t' ∈ q2, remL [92, 41] (bra b :: (t ++ r)) = bra b :: (t' ++ remL [92, 41] r) := by
  rw [rem_head (bra_ne b (by decide) (by decide))]
  simp only [q1, List.mem_cons, List.not_mem_nil, or_false] at h
  rcases h with rfl | rfl | rfl
  · exact ⟨[], by decide, rfl⟩
  · exact ⟨[97], by decide, by rw [show ([97] : List Nat) ++ r = 97 :: r from rfl, rem_head (by decide)]; rfl⟩
  · exact ⟨[], by decide, by rw [show ([92, 41] : List Nat) ++ r = 92 :: 41 :: r from rfl, rem_hit (by simp)]; rfl⟩
theorem rem_box2 (b : Bool) {t : List Nat} (h : t ∈ q2) (r : List Nat) : remL [97] (bra b :: (t ++ r)) = bra b :: remL [97] r := by
  rw [rem_head (bra_ne b (by decide) (by decide))]
  simp only [q2, List.mem_cons, List.not_mem_nil, or_false] at h
  rcases h with rfl | rfl
  · rfl
  · rw [show ([97] : List Nat) ++ r = 97 :: r from rfl, rem_hit (by simp)]
    rfl
theorem rem_34 (y0 : Nat) (y : List Nat) (h : 34 ≠ y0) : remL (y0 :: y) [34] = [34] := by rw [rem_head h, rem_nil]
theorem rem_boxes0 : ∀ (ts : List (Bool × List Nat)), (∀ p ∈ ts, p.2 ∈ q0) → ∃ us : List (Bool × List Nat), (∀ p ∈ us, p.2 ∈ q1) ∧ us.map (·.1) = ts.map (·.1) ∧ remL [92, 40] ((ts.map mk).flatten ++ [34]) = (us.map mk).flatten ++ [34]
  | [], _ => ⟨[], (fun p hp => nomatch hp), rfl, rem_34 _ _ (by decide)⟩
  | (b, t) :: ts, h => by
    obtain ⟨us, h1, h2, h3⟩ := rem_boxes0 ts fun p hp => h p (.tail _ hp)
    obtain ⟨t', ht', e⟩ := rem_box0 b (h _ (.head _)) ((ts.map mk).flatten ++ [34])
    refine ⟨(b, t') :: us, fun p hp => ?_, by simp [h2], ?_⟩
    · rcases List.mem_cons.mp hp with rfl | hp
      · exact ht'
      · exact h1 p hp
    · simp only [List.map_cons, List.flatten_cons, List.append_assoc]
      show remL _ (bra b :: (t ++ _)) = bra b :: (t' ++ _)
      rw [e, h3]
theorem rem_boxes1 : ∀ (ts : List (Bool × List Nat)), (∀ p ∈ ts, p.2 ∈ q1) → ∃ us : List (Bool × List Nat), (∀ p ∈ us, p.2 ∈ q2) ∧ us.map (·.1) = ts.map (·.1) ∧ remL [92, 41] ((ts.map mk).flatten ++ [34]) = (us.map mk).flatten ++ [34]
  | [], _ => ⟨[], (fun p hp => nomatch hp), rfl, rem_34 _ _ (by decide)⟩
  | (b, t) :: ts, h => by
    obtain ⟨us, h1, h2, h3⟩ := rem_boxes1 ts fun p hp => h p (.tail _ hp)
    obtain ⟨t', ht', e⟩ := rem_box1 b (h _ (.head _)) ((ts.map mk).flatten ++ [34])
    refine ⟨(b, t') :: us, fun p hp => ?_, by simp [h2], ?_⟩
    · rcases List.mem_cons.mp hp with rfl | hp
      · exact ht'
      · exact h1 p hp
    · simp only [List.map_cons, List.flatten_cons, List.append_assoc]
      show remL _ (bra b :: (t ++ _)) = bra b :: (t' ++ _)
      rw [e, h3]
theorem rem_boxes2 : ∀ (ts : List (Bool × List Nat)), (∀ p ∈ ts, p.2 ∈ q2) → remL [97] ((ts.map mk).flatten ++ [34]) = (ts.map (·.1)).map bra ++ [34]
  | [], _ => rem_34 _ _ (by decide)
  | (b, t) :: ts, h => by
    have ih := rem_boxes2 ts fun p hp => h p (.tail _ hp)
    simp only [List.map_cons, List.flatten_cons, List.append_assoc]
    show remL _ (bra b :: (t ++ _)) = bra b :: _
    rw [rem_box2 b (h _ (.head _)), ih]
    rfl
theorem sT_q0 : ∀ t ∈ tails, sT t ∈ q0 := by decide
theorem struck_text (ts : List (Bool × List Nat)) (h : okT ts) : replsF [([92, 40], []), ([92, 41], []), ([97], [])] (stripF ((ts.map mk).flatten ++ [34])) = (ts.map (·.1)).map bra ++ [34] := by
  rw [stripF_eq, strip_boxes ts h, show stripA false none [34] = [34] from rfl]
  have e : (ts.map smk).flatten = ((ts.map fun p => (p.1, sT p.2)).map mk).flatten := by rw [List.map_map]; rfl
  obtain ⟨us, h1, h2, h3⟩ := rem_boxes0 (ts.map fun p => (p.1, sT p.2)) fun p hp => by
    obtain ⟨q, hq, rfl⟩ := List.mem_map.mp hp
    exact sT_q0 _ (h q hq)
  obtain ⟨vs, h4, h5, h6⟩ := rem_boxes1 us h1
  show remL [97] (remL [92, 41] (remL [92, 40] _)) = _
  rw [e, h3, h6, rem_boxes2 vs h4, h5, h2]
  simp [Function.comp_def]

def strikeB : List Bool → List Bool
  | [] => []
  | true :: false :: v => strikeB v
  | b :: v => b :: strikeB v
theorem rem_strike : ∀ v : List Bool, remL [40, 41] (v.map bra ++ [34]) = (strikeB v).map bra ++ [34]
  | [] => rem_34 _ _ (by decide)
  | [true] => by
    show remL [40, 41] (40 :: [34]) = _
    rw [rem_miss (by simp), rem_34 _ _ (by decide)]
    rfl
  | [false] => by
    show remL [40, 41] (41 :: [34]) = _
    rw [rem_head (by decide), rem_34 _ _ (by decide)]
    rfl
  | true :: false :: v => by
    show remL [40, 41] (40 :: 41 :: (v.map bra ++ [34])) = _
    rw [rem_hit (by simp)]
    exact rem_strike v
  | true :: true :: v => by
    have ih := rem_strike (true :: v)
    show remL [40, 41] (40 :: 40 :: (v.map bra ++ [34])) = _
    rw [rem_miss (by simp)]
    show 40 :: remL [40, 41] ((true :: v).map bra ++ [34]) = _
    rw [ih]
    rfl
  | false :: b :: v => by
    have ih := rem_strike (b :: v)
    show remL [40, 41] (41 :: ((b :: v).map bra ++ [34])) = _
    rw [rem_head (by decide), ih]
    rfl
theorem bra_inj : ∀ {u v : List Bool}, u.map bra ++ [34] = v.map bra ++ [34] → u = v := fun {u v} h => by
  have h1 := List.append_cancel_right h
  induction u generalizing v with
  | nil => cases v with
    | nil => rfl
    | cons b v => simp at h1
  | cons a u ih => cases v with
    | nil => simp at h1
    | cons b v =>
      simp only [List.map_cons, List.cons.injEq] at h1
      have hab : a = b := by
        have := h1.1
        cases a <;> cases b <;> first | rfl | (simp [bra] at this)
      rw [hab, ih (by rw [h1.2]) h1.2]
def strRunB : Nat → List Nat → List Bool → List Nat × List Bool
  | 0, told, v => (told, v)
  | k + 1, told, v => if strikeB v = v then (told, v) else strRunB k (told ++ [(v.length - (strikeB v).length) / 2]) (strikeB v)
theorem struckRun_B : ∀ (n : Nat) (told : List Nat) (v : List Bool), struckRun n told (v.map bra ++ [34]) = ((strRunB n told v).1, (strRunB n told v).2.map bra ++ [34])
  | 0, told, v => rfl
  | k + 1, told, v => by
    unfold struckRun strRunB
    rw [show replL [40, 41] [] (v.map bra ++ [34]) = (strikeB v).map bra ++ [34] from rem_strike v]
    by_cases h : strikeB v = v
    · rw [if_pos (by rw [h]), if_pos h]
    · rw [if_neg (fun q => h (bra_inj q)), if_neg h, struckRun_B k]
      congr 3 <;> simp
theorem struckF_B (ts : List (Bool × List Nat)) (h : okT ts) : struckF (ts.map mk) = ((strRunB ts.length [] (ts.map (·.1))).1, (strRunB ts.length [] (ts.map (·.1))).2.map bra ++ [34]) := by
  unfold struckF
  rw [struck_text ts h, List.length_map]
  exact struckRun_B _ _ _

theorem replL_one (c d : Nat) : ∀ l : List Nat, replL [c] [d] l = l.map fun x => if x = c then d else x
  | [] => by simp [replL, splitL, joinL]
  | x :: l => by
    have ih := replL_one c d l
    obtain ⟨p, r, e⟩ := splitL_ne [c] 0 l
    unfold replL at ih ⊢
    by_cases h : x = c
    · subst h
      rw [splitL_hit (by simp), show ([x] : List Nat).length - 1 = 0 from rfl, e, joinL_cons, ← e, ih]
      simp
    · rw [splitL_miss (by simpa using h) e, joinL_grow, ← e, ih]
      simp [h]
theorem split_at (c : Nat) (r : List Nat) : ∀ x : List Nat, c ∉ x → splitL [c] 0 (x ++ c :: r) = x :: splitL [c] 0 r
  | [], _ => splitL_hit (by simp)
  | a :: x, h => splitL_miss (by simp; exact fun q => h (q ▸ .head _)) (split_at c r x fun q => h (.tail _ q))
theorem split_end (c : Nat) : ∀ x : List Nat, c ∉ x → splitL [c] 0 x = [x]
  | [], _ => rfl
  | a :: x, h => splitL_miss (by simp; exact fun q => h (q ▸ .head _)) (split_end c x fun q => h (.tail _ q))
theorem split_join (c : Nat) : ∀ xs : List (List Nat), xs ≠ [] → (∀ x ∈ xs, c ∉ x) → splitL [c] 0 (joinL [c] xs) = xs
  | [], h, _ => absurd rfl h
  | [x], _, h => split_end c x (h x (.head _))
  | x :: y :: r, _, h => by
    rw [joinL_cons, show x ++ [c] ++ joinL [c] (y :: r) = x ++ c :: joinL [c] (y :: r) by simp, split_at c _ x (h x (.head _)), split_join c (y :: r) (by simp) fun z hz => h z (.tail _ hz)]
theorem map_join (f : Nat → Nat) (z : List Nat) : ∀ xs : List (List Nat), (joinL z xs).map f = joinL (z.map f) (xs.map (·.map f))
  | [] => rfl
  | [x] => rfl
  | x :: y :: r => by
    have ih := map_join f z (y :: r)
    simp only [List.map_cons] at ih ⊢
    rw [joinL_cons, joinL_cons, List.map_append, List.map_append, ih]
theorem mem_join {c : Nat} {z : List Nat} : ∀ {xs : List (List Nat)}, c ∈ joinL z xs → c ∈ z ∨ ∃ x ∈ xs, c ∈ x
  | [], h => nomatch h
  | [x], h => .inr ⟨x, .head _, h⟩
  | x :: y :: r, h => by
    rw [joinL_cons] at h
    rcases List.mem_append.mp h with h | h
    · rcases List.mem_append.mp h with h | h
      · exact .inr ⟨x, .head _, h⟩
      · exact .inl h
    · rcases mem_join h with h | ⟨w, hw, hc⟩
      · exact .inl h
      · exact .inr ⟨w, .tail _ hw, hc⟩
theorem mk_no {c : Nat} (hc : c = 42 ∨ c = 124) {p : Bool × List Nat} (h : p.2 ∈ tails) : c ∉ mk p := by
  obtain ⟨b, t⟩ := p
  simp only [tails, List.mem_cons, List.not_mem_nil, or_false] at h
  rcases hc with rfl | rfl <;> rcases h with rfl | rfl | rfl | rfl | rfl | rfl | rfl | rfl <;> cases b <;> decide
theorem turnL_boxes (ts : List (Bool × List Nat)) (h : okT ts) (hne : ts ≠ []) : turnL (ts.map mk) = (ts.map (flp true)).map mk := by
  unfold turnL
  show splitL [124] 0 (replL [42] [41] (replL [41] [40] (replL [40] [42] (joinL [124] (ts.map mk))))) = _
  rw [replL_one, replL_one, replL_one, List.map_map, List.map_map]
  have e : ∀ l : List Nat, 42 ∉ l → l.map (((fun x => if x = 42 then 41 else x) ∘ fun x => if x = 41 then 40 else x) ∘ fun x => if x = 40 then 42 else x) = l.map swp := fun l hl => by
    apply List.map_congr_left
    intro c hc
    have h42 : c ≠ 42 := fun q => hl (q ▸ hc)
    simp only [Function.comp_def, swp]
    by_cases h1 : c = 40
    · subst h1; decide
    · by_cases h2 : c = 41
      · subst h2; decide
      · simp [h1, h2, h42]
  rw [e _ (fun q => by
    rcases mem_join q with q | ⟨x, hx, q⟩
    · revert q; decide
    · obtain ⟨p, hp, rfl⟩ := List.mem_map.mp hx
      exact mk_no (.inl rfl) (h p hp) q), map_join, show ([124] : List Nat).map swp = [124] from rfl]
  have e2 : (ts.map mk).map (·.map swp) = (ts.map (flp true)).map mk := by
    rw [List.map_map, List.map_map]
    apply List.map_congr_left
    intro p _
    exact mk_swp p
  rw [e2, split_join 124 _ (by simpa using hne) fun x hx => ?_]
  obtain ⟨p, hp, rfl⟩ := List.mem_map.mp hx
  obtain ⟨q, hq, rfl⟩ := List.mem_map.mp hp
  exact mk_no (.inr rfl) (flp_ok (h q hq))

abbrev RB := List Bool × List (Nat × Nat)
def exInB (v : List Bool) (start : Nat) : Nat → Nat → RB → RB
  | 0, _, σ => σ
  | k + 1, e, σ => if balB ((v.drop start).take (e - start)) then (σ.1.take start ++ List.replicate (e - start) true ++ σ.1.drop e, σ.2 ++ [(start, e)]) else exInB v start k (e + 2) σ
def exStB (v : List Bool) (σ : RB) (start : Nat) : RB := if (!v.getD start true) || (!σ.2.isEmpty && decide (start < (σ.2.getLastD (0, 0)).2)) then σ else exInB v start ((v.length + 1 - (start + 2) + 1) / 2) (start + 2) σ
def exRuB (v : List Bool) : Nat → Nat → RB → RB
  | 0, _, σ => σ
  | k + 1, i, σ => exRuB v k (i + 1) (exStB v σ i)
def exchB (v : List Bool) : RB := exRuB v v.length 0 (List.replicate v.length false, [])

theorem apF_app {f g : List Bool} {ts us : List (Bool × List Nat)} (h : f.length = ts.length) : apF (f ++ g) (ts ++ us) = apF f ts ++ apF g us := by
  unfold apF
  rw [List.zipWith_append h]
theorem apF_take (f : List Bool) (ts : List (Bool × List Nat)) (k : Nat) : (apF f ts).take k = apF (f.take k) (ts.take k) := by
  unfold apF
  rw [List.take_zipWith]
theorem apF_drop (f : List Bool) (ts : List (Bool × List Nat)) (k : Nat) : (apF f ts).drop k = apF (f.drop k) (ts.drop k) := by
  unfold apF
  rw [List.drop_zipWith]
theorem apF_true : ∀ (ts : List (Bool × List Nat)), apF (List.replicate ts.length true) ts = ts.map (flp true)
  | [] => rfl
  | t :: ts => by
    have ih := apF_true ts
    unfold apF at ih ⊢
    rw [List.length_cons, List.replicate_succ, List.zipWith_cons_cons, ih]
    rfl
theorem ex_put (ts : List (Bool × List Nat)) (h : okT ts) (fl : List Bool) (hf : fl.length = ts.length) (s e : Nat) (hs : s + 2 ≤ e) (he : e ≤ ts.length) :
    ((apF fl ts).map mk).take s ++ turnL (segL (ts.map mk) s e) ++ ((apF fl ts).map mk).drop e = (apF (fl.take s ++ List.replicate (e - s) true ++ fl.drop e) ts).map mk := by
  have hseg : segL (ts.map mk) s e = ((ts.drop s).take (e - s)).map mk := by unfold segL; rw [List.map_take, List.map_drop]
  have hl : ((ts.drop s).take (e - s)).length = e - s := by rw [List.length_take, List.length_drop]; omega
  rw [hseg, turnL_boxes _ (fun p hp => h p (List.mem_of_mem_drop (List.mem_of_mem_take hp))) (fun q => by rw [q] at hl; simp at hl; omega)]
  rw [← List.map_take, ← List.map_drop, ← List.map_append, ← List.map_append, apF_take, apF_drop, ← apF_true, hl]
  congr 1
  have hts : ts = ts.take s ++ (ts.drop s).take (e - s) ++ ts.drop e := by
    have h1 : ts.drop e = (ts.drop s).drop (e - s) := by rw [List.drop_drop]; congr 1; omega
    rw [h1, List.append_assoc, List.take_append_drop, List.take_append_drop]
  conv => rhs; rw [hts]
  rw [apF_app (by simp only [List.length_append, List.length_take, List.length_replicate, hl]; omega), apF_app (by simp only [List.length_take]; omega)]
theorem exIn_B (ts : List (Bool × List Nat)) (h : okT ts) (start : Nat) : ∀ (k e : Nat) (fl : List Bool) (sts : List (Nat × Nat)), fl.length = ts.length → start + 2 ≤ e → (1 ≤ k → e + 2 * k ≤ ts.length + 2) →
    exInner (ts.map mk) start k e ((apF fl ts).map mk, sts) = ((apF (exInB (ts.map (·.1)) start k e (fl, sts)).1 ts).map mk, (exInB (ts.map (·.1)) start k e (fl, sts)).2) ∧ (exInB (ts.map (·.1)) start k e (fl, sts)).1.length = ts.length
  | 0, e, fl, sts, hf, _, _ => ⟨rfl, hf⟩
  | k + 1, e, fl, sts, hf, hs, he => by
    have he' := he (by omega)
    have hseg : segL (ts.map mk) start e = ((ts.drop start).take (e - start)).map mk := by unfold segL; rw [List.map_take, List.map_drop]
    have hck : checkF (segL (ts.map mk) start e).flatten = balB (((ts.map (·.1)).drop start).take (e - start)) := by
      rw [hseg, check_boxes _ fun p hp => h p (List.mem_of_mem_drop (List.mem_of_mem_take hp)), List.map_take, List.map_drop]
    unfold exInner exInB
    rw [hck]
    by_cases hb : balB (((ts.map (·.1)).drop start).take (e - start)) = true
    · rw [if_pos hb, if_pos hb]
      refine ⟨?_, ?_⟩
      · simp only
        rw [ex_put ts h fl hf start e hs (by omega)]
      · simp only [List.length_append, List.length_take, List.length_replicate, List.length_drop]
        omega
    · rw [if_neg hb, if_neg hb]
      exact exIn_B ts h start k (e + 2) fl sts hf (by omega) (fun _ => by omega)
theorem exSt_B (ts : List (Bool × List Nat)) (h : okT ts) (fl : List Bool) (sts : List (Nat × Nat)) (hf : fl.length = ts.length) (i : Nat) (hi : i < ts.length) :
    exStep (ts.map mk) ((apF fl ts).map mk, sts) i = ((apF (exStB (ts.map (·.1)) (fl, sts) i).1 ts).map mk, (exStB (ts.map (·.1)) (fl, sts) i).2) ∧ (exStB (ts.map (·.1)) (fl, sts) i).1.length = ts.length := by
  have hc : exSkip (ts.map mk) i sts = ((!(ts.map (·.1)).getD i true) || (!sts.isEmpty && decide (i < (sts.getLastD (0, 0)).2))) := by
    unfold exSkip
    congr 1
    have e1 : (ts.map mk).getD i [] = mk ts[i] := by rw [List.getD_eq_getElem?_getD, List.getElem?_map, List.getElem?_eq_getElem hi]; rfl
    have e2 : (ts.map (·.1)).getD i true = ts[i].1 := by rw [List.getD_eq_getElem?_getD, List.getElem?_map, List.getElem?_eq_getElem hi]; rfl
    rw [e1, e2]
    obtain ⟨b, t⟩ := ts[i]
    cases b <;> rfl
  unfold exStep exStB
  simp only
  rw [hc]
  split
  · exact ⟨rfl, hf⟩
  · rw [List.length_map, List.length_map]
    exact exIn_B ts h i _ _ fl sts hf (Nat.le_refl _) (fun _ => by omega)
theorem exRu_B (ts : List (Bool × List Nat)) (h : okT ts) : ∀ (k i : Nat) (fl : List Bool) (sts : List (Nat × Nat)), fl.length = ts.length → i + k ≤ ts.length →
    exRun (ts.map mk) k i ((apF fl ts).map mk, sts) = ((apF (exRuB (ts.map (·.1)) k i (fl, sts)).1 ts).map mk, (exRuB (ts.map (·.1)) k i (fl, sts)).2) ∧ (exRuB (ts.map (·.1)) k i (fl, sts)).1.length = ts.length
  | 0, i, fl, sts, hf, _ => ⟨rfl, hf⟩
  | k + 1, i, fl, sts, hf, hi => by
    obtain ⟨h1, h2⟩ := exSt_B ts h fl sts hf i (by omega)
    unfold exRun exRuB
    rw [h1]
    exact exRu_B ts h k (i + 1) _ _ h2 (by omega)
theorem exch_B (ts : List (Bool × List Nat)) (h : okT ts) : exchF (ts.map mk) = ((apF (exchB (ts.map (·.1))).1 ts).map mk, (exchB (ts.map (·.1))).2) ∧ (exchB (ts.map (·.1))).1.length = ts.length := by
  unfold exchF exchB
  rw [List.length_map, List.length_map]
  have := exRu_B ts h ts.length 0 (List.replicate ts.length false) [] (by simp) (by omega)
  rw [apF_false] at this
  exact this

def nT (v : List Bool) : Nat := (v.filter id).length
def xr (f v : List Bool) : List Bool := List.zipWith (· ^^ ·) f v
def v0B (v : List Bool) : List Bool := v ++ List.replicate (3 * nT v) false
def laidB (v : List Bool) : Nat := nT (xr (carB (nT v) 0 0 0 v).1 v)
def askB (v : List Bool) (a b : Nat) : Bool :=
  balB ([true, false] ++ List.replicate (v.length - nT v - laidB v + a) true ++ [false] ++ v ++ List.replicate (nT v - laidB v) false ++ List.replicate b true)
def v1B (v : List Bool) : List Bool := xr (carB (nT v) 0 0 0 (v0B v)).1 (v0B v)
def v2B (v : List Bool) : List Bool := xr (carB (nT v) 0 0 0 (v1B v)).1 (v1B v)
def s0B (v : List Bool) : List Nat × List Bool := strRunB (v0B v).length [] (v0B v)
def bf1 (v : List Bool) : Bool :=
  decide (laidB v ≤ nT v ∧ laidB v + nT v ≤ v.length ∧ nT v ≤ 11 ∧ v.length ≤ 11) && (!askB v 0 0 && (!askB v 0 1 && askB v 1 0))
def bf2 (v : List Bool) : Bool :=
  ((s0B v).2 == List.replicate ((v0B v).length - 2 * nT v) false) && (decide (2 * nT v ≤ (v0B v).length) && (decide ((s0B v).1.length ≤ 60) && (List.range (s0B v).1.length).all fun i => ((s0B v).1.take (i + 1)).sum == (carB (i + 1) 0 0 0 (v0B v)).2.1))
def bf3 (v : List Bool) : Bool :=
  ((exchB (v0B v)).1 == (carB (nT v) 0 0 0 (v0B v)).1 && (exchB (v0B v)).2 == (carB (nT v) 0 0 0 (v0B v)).2.2) && ((exchB (v1B v)).1 == (carB (nT v) 0 0 0 (v1B v)).1 && (exchB (v1B v)).2 == (carB (nT v) 0 0 0 (v1B v)).2.2)
def bf4 (v : List Bool) : Bool :=
  (strRunB (v1B v).length [] (v1B v) == s0B v) && (strRunB (v2B v).length [] (v2B v) == s0B v)
def bf5 (v : List Bool) : Bool :=
  ((exchB (v2B v).reverse).1.reverse == (carB (nT v) 0 0 0 (v1B v)).1) && ((exchB (v1B v).reverse).1.reverse == (carB (nT v) 0 0 0 (v0B v)).1)
def allB : Nat → List (List Bool)
  | 0 => [[]]
  | n + 1 => [] :: (allB n).flatMap fun v => [true :: v, false :: v]
theorem mem_allB : ∀ (n : Nat) (v : List Bool), v.length ≤ n → v ∈ allB n
  | 0, v, h => by
    have : v = [] := List.eq_nil_of_length_eq_zero (by omega)
    subst this
    exact .head _
  | n + 1, [], _ => .head _
  | n + 1, b :: v, h => by
    refine .tail _ (List.mem_flatMap.mpr ⟨v, mem_allB n v (by simpa using h), ?_⟩)
    cases b
    · exact .tail _ (.head _)
    · exact .head _
theorem bf1_ok : ∀ v ∈ allB 5, bf1 (v ++ [true, true, false, true, false, true]) = true := by decide +kernel
theorem bf2_ok : ∀ v ∈ allB 5, bf2 (v ++ [true, true, false, true, false, true]) = true := by decide +kernel
theorem bf3_ok : ∀ v ∈ allB 5, bf3 (v ++ [true, true, false, true, false, true]) = true := by decide +kernel
theorem bf4_ok : ∀ v ∈ allB 5, bf4 (v ++ [true, true, false, true, false, true]) = true := by decide +kernel
theorem bf5_ok : ∀ v ∈ allB 5, bf5 (v ++ [true, true, false, true, false, true]) = true := by decide +kernel

theorem filter_mk : ∀ ts : List (Bool × List Nat), ((ts.map mk).filter isB).length = nT (ts.map (·.1))
  | [] => rfl
  | (b, t) :: ts => by
    have ih := filter_mk ts
    unfold nT at ih ⊢
    cases b
    · simp only [List.map_cons, List.filter_cons, isB_mk]
      simpa using ih
    · simp only [List.map_cons, List.filter_cons, isB_mk]
      simpa using ih
theorem xr_self : ∀ f : List Bool, xr f f = List.replicate f.length false
  | [] => rfl
  | b :: f => by
    have ih := xr_self f
    unfold xr at ih ⊢
    rw [List.zipWith_cons_cons, ih, List.length_cons, List.replicate_succ, Bool.xor_self]
theorem okT_ok {ts : List (Bool × List Nat)} (h : okT ts) : ∀ b ∈ ts.map mk, 1 ≤ b.length ∧ b.length ≤ 20 ∧ ∀ c ∈ b, c < 1000 := fun b hb => by
  obtain ⟨p, hp, rfl⟩ := List.mem_map.mp hb
  have h1 := h p hp
  obtain ⟨b, t⟩ := p
  simp only [tails, List.mem_cons, List.not_mem_nil, or_false] at h1
  rcases h1 with rfl | rfl | rfl | rfl | rfl | rfl | rfl | rfl <;> cases b <;> decide

theorem facts_of (ts : List (Bool × List Nat)) (h : okT ts) (v : List Bool) (hv : ts.map (·.1) = v) (h1 : bf1 v = true) (h2 : bf2 v = true) (h3 : bf3 v = true) (h4 : bf4 v = true) (h5 : bf5 v = true) :
    Facts (ts.map mk) (nT v) (laidB v) := by
  have hlen : ts.length = v.length := by rw [← hv, List.length_map]
  simp only [bf1, Bool.and_eq_true, decide_eq_true_eq, Bool.not_eq_true'] at h1
  obtain ⟨⟨a1, a2, a3, a3b⟩, a4, a5, a6⟩ := h1
  simp only [bf2, Bool.and_eq_true, decide_eq_true_eq, beq_iff_eq, List.all_eq_true, List.mem_range] at h2
  obtain ⟨b1, b2, b3, b4⟩ := h2
  simp only [bf3, Bool.and_eq_true, beq_iff_eq] at h3
  obtain ⟨⟨c1, c2⟩, c3, c4⟩ := h3
  simp only [bf4, Bool.and_eq_true, beq_iff_eq] at h4
  obtain ⟨d1, d2⟩ := h4
  simp only [bf5, Bool.and_eq_true, beq_iff_eq] at h5
  obtain ⟨e1, e2⟩ := h5
  -- the rows
  have ht0 : ts.map mk ++ List.replicate (3 * nT v) [41] = (ts ++ List.replicate (3 * nT v) ((false, []) : Bool × List Nat)).map mk := by
    rw [List.map_append, List.map_replicate]
    rfl
  have hk0 : okT (ts ++ List.replicate (3 * nT v) ((false, []) : Bool × List Nat)) := fun p hp => by
    rcases List.mem_append.mp hp with hp | hp
    · exact h p hp
    · rw [List.eq_of_mem_replicate hp]; exact .head _
  have hv0 : (ts ++ List.replicate (3 * nT v) ((false, []) : Bool × List Nat)).map (·.1) = v0B v := by
    rw [List.map_append, List.map_replicate, hv]
    rfl
  generalize hts0 : ts ++ List.replicate (3 * nT v) ((false, []) : Bool × List Nat) = ts0 at ht0 hk0 hv0
  have hl0 : ts0.length = (v0B v).length := by rw [← hv0, List.length_map]
  obtain ⟨r1, r2, r3⟩ := rowOf_B (nT v) ts0
  rw [hv0] at r1 r2 r3
  have hcl0 : (carB (nT v) 0 0 0 (v0B v)).1.length = ts0.length := by rw [carB_len, hl0]
  generalize hts1 : apF (carB (nT v) 0 0 0 (v0B v)).1 ts0 = ts1 at r1
  have hk1 : okT ts1 := hts1 ▸ apF_ok hk0
  have hv1 : ts1.map (·.1) = v1B v := by rw [← hts1, apF_fst _ _ hcl0, hv0]; rfl
  have hl1 : ts1.length = ts0.length := by rw [← hts1, apF_len hcl0]
  obtain ⟨q1, q2, q3⟩ := rowOf_B (nT v) ts1
  rw [hv1] at q1 q2 q3
  have hl1v : ts1.length = (v1B v).length := by rw [← hv1, List.length_map]
  have hcl1 : (carB (nT v) 0 0 0 (v1B v)).1.length = ts1.length := by rw [carB_len, hl1v]
  generalize hts2 : apF (carB (nT v) 0 0 0 (v1B v)).1 ts1 = ts2 at q1
  have hk2 : okT ts2 := hts2 ▸ apF_ok hk1
  have hv2 : ts2.map (·.1) = v2B v := by rw [← hts2, apF_fst _ _ hcl1, hv1]; rfl
  have hl2 : ts2.length = ts1.length := by rw [← hts2, apF_len hcl1]
  have hl2v : ts2.length = (v2B v).length := by rw [← hv2, List.length_map]
  have hs0 : struckF (ts0.map mk) = ((s0B v).1, (s0B v).2.map bra ++ [34]) := by
    rw [struckF_B ts0 hk0, hv0, hl0]
    rfl
  -- an exchange turned round
  have rev : ∀ (us ts' : List (Bool × List Nat)) (f : List Bool), okT ts' → f.length = us.length → ts' = apF f us → us.length = ts'.length → (exchB (ts'.map (·.1)).reverse).1.reverse = f → (exchF (ts'.map mk).reverse).1.reverse = us.map mk := fun us ts' f hk hf hts hlu hx => by
    obtain ⟨x1, x2⟩ := exch_B ts'.reverse fun p hp => hk p (List.mem_reverse.mp hp)
    have e4 : ts'.reverse.map (·.1) = (ts'.map (·.1)).reverse := by rw [List.map_reverse]
    rw [e4] at x1 x2
    have e3 : (ts'.map mk).reverse = ts'.reverse.map mk := by rw [List.map_reverse]
    rw [e3, x1]
    show ((apF (exchB (ts'.map (·.1)).reverse).1 ts'.reverse).map mk).reverse = us.map mk
    rw [← List.map_reverse, apF_rev x2, List.reverse_reverse, hx, hts, apF_apF f f us hf hf, show List.zipWith (· ^^ ·) f f = xr f f from rfl, xr_self, hf, apF_false]
  have hex0 := (exch_B ts0 hk0).1
  have hex1 := (exch_B ts1 hk1).1
  rw [hv0, c1, c2, hts1] at hex0
  rw [hv1, c3, c4, hts2] at hex1
  have hl3 : (ts.map mk ++ List.replicate (3 * nT v) [41]).length = (v0B v).length := by rw [ht0, List.length_map, hl0]
  refine
    { hB := by rw [filter_mk, hv]
      hlaid := ?_
      len := by rw [List.length_map, hlen]; exact a3b
      bl := a3
      ll := ⟨a1, by rw [List.length_map, hlen]; exact a2⟩
      boxes := okT_ok h
      asked := ?_
      rest := by rw [hl3, ht0, hs0, b1]; simp [bra]
      rest2 := by rw [hl3]; exact b2
      told := ?_
      toldn := by rw [ht0, hs0]; exact b3
      ex0 := by rw [ht0, hex0, r1, r3]
      st1 := ?_
      ex1 := by rw [ht0, r1, hex1, q1, q3]
      st2 := ?_
      rv2 := by rw [ht0, r1, q1]; exact rev ts1 ts2 _ hk2 hcl1 hts2.symm hl2.symm (by rw [hv2]; exact e1)
      rv1 := by rw [ht0, r1]; exact rev ts0 ts1 _ hk1 hcl0 hts1.symm hl1.symm (by rw [hv1]; exact e2) }
  · obtain ⟨z1, _, _⟩ := rowOf_B (nT v) ts
    rw [z1, filter_mk, apF_fst _ _ (by rw [carB_len, List.length_map]), hv]
    rfl
  · intro a b hab
    have e : (ts.map mk).length - nT v - laidB v + a = v.length - nT v - laidB v + a := by rw [List.length_map, hlen]
    rw [e, asked_eq ts h, hv]
    rcases hab with ⟨rfl, hb⟩ | ⟨rfl, rfl⟩
    · have hb' : b = 0 ∨ b = 1 := by omega
      rcases hb' with rfl | rfl
      · exact a4
      · exact a5
    · exact a6
  · intro room h1 h2
    rw [ht0, hs0] at h2 ⊢
    obtain ⟨z1, z2, z3⟩ := rowOf_B room ts0
    rw [z2, hv0]
    obtain ⟨i, rfl⟩ : ∃ i, room = i + 1 := ⟨room - 1, by omega⟩
    have := b4 i h2
    simpa using this
  · rw [ht0, r1, hs0, struckF_B ts1 hk1, hv1, hl1v, d1]
  · rw [ht0, r1, q1, hs0, struckF_B ts2 hk2, hv2, hl2v, d2]

def tsOf (x : Int) : Bool × List Nat := (x.fmod 2 == 0, tailL ((x.fdiv 2).fmod 6).toNat)
theorem tailL_ok : ∀ n : Nat, tailL n ∈ tails
  | 0 => .head _
  | 1 => .head _
  | 2 => .tail _ (.head _)
  | 3 => .tail _ (.tail _ (.head _))
  | 4 => .tail _ (.tail _ (.tail _ (.tail _ (.head _))))
  | n + 5 => by
    show tailL (n + 5) ∈ tails
    have : tailL (n + 5) = [34, 40, 92, 34, 34] := rfl
    rw [this]
    decide
theorem facts (ns : List Int) : ∃ B laid, Facts (drawnL ns) B laid := by
  have e : drawnL ns = ((ns.take 5 ++ [0, 6, 3, 10, 9, 4]).map tsOf).map mk := by
    unfold drawnL
    rw [List.map_map]
    rfl
  have hv : ((ns.take 5 ++ [0, 6, 3, 10, 9, 4]).map tsOf).map (fun p : Bool × List Nat => p.1) = (ns.take 5).map (fun x => (tsOf x).1) ++ [true, true, false, true, false, true] := by
    rw [List.map_append, List.map_append, List.map_map]
    rfl
  have hm := mem_allB 5 ((ns.take 5).map (fun x => (tsOf x).1)) (by rw [List.length_map, List.length_take]; omega)
  rw [e]
  exact ⟨_, _, facts_of _ (fun p hp => by
    obtain ⟨x, _, rfl⟩ := List.mem_map.mp hp
    exact tailL_ok _) _ hv (bf1_ok _ hm) (bf2_ok _ hm) (bf3_ok _ hm) (bf4_ok _ hm) (bf5_ok _ hm)⟩

theorem room_law {e1 : Env} : Room (callerA.deeper e1) 11 := ⟨rfl, by show callerA.depth + 1 + 11 < recursionLimit; decide +kernel, by show callerA.units + 3 + 8 * 11 < cLine; decide +kernel⟩

set_option maxHeartbeats 8000000 in
theorem tst : PySem.Challenge.rw_pm0006_01.Holds := hd (by
  k_fill
  intro w s₀ s₁ mg mb G Y fa o pm cd doc dV kV ho hdt hcd hD hmg hg args vals as hpre hlay hrd hwl hlo
  have KX := kIn_of Y
  refine Ground.open G ?_
  intro T B D TE TW
  try (refine guard_noD D (by decide +kernel) ?_; clear D)
  try (obtain ⟨_, _, he, B0⟩ := based_of_top T rfl hmg ho hdt; have he' : cd = _ := he; subst he'; clear he)
  clear hmg
  wrow_args hpre hlay hrd hwl hlo
  all_goals
    first | refine callC_kw (enter_call ?_) | refine enter_call ?_ | refine callC_kw (enter_callW ?_) | refine enter_callW ?_ | w_how
    w_top on
    have K0 := below_caller (Top.heap T)
    w_call any ho hdt hcd hD T F
    rename Heap.IsList _ _ _ => hL
    rename IntsAre _ _ => hI
    rename Fr _ _ _ _ => F
    rename ¬ (_ : Int) < _ => hc
    have hlen := ints_len hI
    obtain ⟨B, laid, X⟩ := facts _
    refine ff (law_ok (B := B) (laid := laid) room_law ⟨⟨KX, _, _, topRead_of T⟩, F, fun p hp => (nomatch hp), rfl, fun _ _ e => e, id, fun _ _ _ _ e => e, fun _ _ e => e, rfl, id⟩ (hL.at fun o e => F.keep _ _ e) hI (by omega) rfl X fun s' hs => ?_)
    refine ⟨.inl ⟨_, _, [], rfl, fun _ => rfl, ReadsW.bool true, ?_, fun _ => ⟨List.nodup_nil, fun _ q => nomatch q⟩⟩, .of_keep hs.keep, hs.os, hs.bare (hg ▸ AllBare.empty)⟩
    first | rfl | wrow_post)

end Mine

theorem PySem.Challenge.cw_pm0006_01_holds : PySem.Challenge.rw_pm0006_01.Holds := by
  exact Mine.tst
