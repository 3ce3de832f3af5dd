import PyProof.Rows.All
import Wide.All
import OpenK.AllK
import Wide.FinOn
import Lean
import PySem.Challenge.RW_wj0025_01
set_option maxRecDepth 100000
set_option Elab.async false
set_option autoImplicit false
set_option linter.unusedVariables false
set_option maxHeartbeats 8000000

section
open PySem PySem.W PyProof.Rows
namespace Mine
theorem said0 : PySem.Challenge.rw_wj0025_01.wellSaid = true := by
  unfold OpenLaw.wellSaid
  repeat' with_reducible refine look_both ?_ ?_
  all_goals first
    | (unfold OpenRow.wellSaid OpenRow.partSaid looksOpen; (repeat' with_reducible refine look_both ?_ ?_) <;> decide +kernel)
    | decide +kernel
/-- the head in two: what is left when the text has run, then the call -/
theorem headAnd {r : OpenRow} {q : Program} {loose : List Str} {Xt : Shared → Bool} {XP : (Str → Option Value) → Heap → Prop} {α : Type} {Yf : Shared → α} {Ya : World → α} {YP : World → Heap → Prop} {d : DefRec} {kwd : List (Str × Expr)} {N : Nat}
    (hY : ∀ w s, Yf s = Ya w → YP w s.heap) (hYk : ∀ w h h', YP w h → (∀ b o, h.get? b = some o → h'.get? b = some o) → YP w h') (hX : ∀ s, Xt s = true → XP (s.heap.nsMap mainGlobals) s.heap) (hXk : ∀ mg h h', XP mg h → (∀ b o, h.get? b = some o → h'.get? b = some o) → XP mg h')
    (hdef : defOf q r.name = some (d, kwd)) (hp : r.prog.theDef r.name = some (d.params, d.body, d.scope)) (hk : kwWritten? d.params.kwonlyargs d.params.kw_defaults = some kwd) (hRf : ∀ s, Xt s = true → RecFacts r.records s.heap) (hwr : (!r.writes || r.records.isEmpty) = true)
    (k1 : r.wellSaid = true) (ok : (chainsOk q && opensWell r.prog && (frees r.toRowW && r.within.isEmpty)) = true) (hb : r.prog.bare) (hw : r.toRowW.promised)
    (h : LeftO r.prog q loose Xt Yf Ya N ∧ WalkO q loose XP YP r.toRowW d kwd fun f vs => PySem.call f vs) : r.Holds :=
  holds_open h.1 hY hYk hX hXk hdef hp hk hRf hwr k1 ok hb hw h.2
theorem andGet {A B C : Prop} (f : A ∧ B → C) (a : A) (b : B) : C := f ⟨a, b⟩
/-- the opening by the library's boot; then the text's run, once for each way of a setting of the world's -/
theorem leftBoot {p q : Program} {loose : List Str} {Xt : Shared → Bool} {α : Type} {Yf : Shared → α} {Ya : World → α} {N : Nat} {g0 : Bool} (row : String) (e : opening p = plainProg p.main.scope.names) (hN : Nat.ble 600 N = true) (f : ∀ s, fenceModules? p s = some s)
    (h : ∀ (b : Bool) (w : World) (os : OsState), (topFrom treeTable p (w.withFollow row b) N ⟨boot_heap w.params, Array.mk [], boot_drawn, boot_toks, os⟩).map (fun s => (openSeen q loose (importedModules p.main.body) Xt g0 s, Yf s)) = some (openGood q loose, Ya (w.withFollow row b))) : LeftO p q loose Xt Yf Ya N g0 :=
  LeftO.of_split row fun w => by
    obtain ⟨⟨h0, gs, d, k, os⟩, a, b⟩ := Option.map_eq_some_iff.mp (boot_open e hN f w)
    obtain ⟨rfl, rfl, rfl, rfl⟩ : h0 = boot_heap w.params ∧ gs = Array.mk [] ∧ d = boot_drawn ∧ k = boot_toks := by simpa using b
    rw [a, Option.map_some, h false w os, h true w os]
def hkept : List Bool → List Stmt → List Stmt
  | true :: l, x :: r => x :: hkept l r
  | false :: l, _ :: r => hkept l r
  | _, _ => []
noncomputable def hprog : Program := OpenLaw.prog PySem.Challenge.rw_wj0025_01
noncomputable def hview : Program := { hprog with main := { hprog.main with body := hkept [true, false, true, false, true, false, true, true, false, true, true, true, true, false, true, true, true, true, true, true, true, true] hprog.main.body } }
local macro_rules | `(tactic| o_law) => `(tactic| refine holds_law said0 fun said => ?_)
set_option hygiene false in
local macro_rules | `(tactic| o_head $H) => `(tactic| (
  refine headAnd (q := hview) (loose := [Str.ofString "Whitespace"]) (Xt := fun s => xlAt hview [] s && recOk (RowW.records (OpenRow.toRowW (OpenLaw.row PySem.Challenge.rw_wj0025_01))) s) (XP := XL hview []) (Yf := Hook.obs $H) (Ya := Hook.val $H) (YP := Hook.says $H) (N := 2080) (Hook.of $H) (Hook.keeps $H) (fun s e => xl_of s (Bool.and_eq_true_iff.mp e).1) XL.keeps (by rfl) (by rfl) (by rfl) (fun s e => recFacts_of (Bool.and_eq_true_iff.mp e).2) (by rfl) (by first | assumption | decide +kernel) (by decide +kernel) ⟨rfl, rfl, rfl, rfl, rfl, by decide +kernel⟩ ?hw ?hc))
open_top hd for PySem.Challenge.rw_wj0025_01
noncomputable abbrev hadrs : List Nat := [2, 3, 15, 17, 18, 20, 21, 32, 34, 35, 37, 38, 39, 41, 42, 44, 45, 46, 48, 49, 51, 52, 53, 55, 56, 58, 59, 60, 62, 63, 65, 66, 67, 69, 70, 72, 73, 74, 76, 77, 79, 80, 81, 82, 83, 84, 85, 88, 90, 91, 93, 94, 95, 97, 98, 100, 101, 102, 104, 105, 107, 108, 109, 111, 112, 114, 115, 116, 118, 119, 121, 122, 123, 125, 126, 128, 129, 130, 133, 134, 135, 137, 138, 140, 141, 142, 145, 146, 147, 149, 150, 152, 153, 154, 156, 157, 159, 160, 161, 163, 164, 166, 167, 168, 171, 172]
theorem hadrs_eq (P : Params) : hadrs = (hd.heap_1 P).map (·.1) := by kernel_rfl
noncomputable abbrev hhook := kHook hd.heap_1 hadrs hadrs_eq
theorem left_f (w : World) (os : OsState) : (topFrom treeTable (OpenLaw.row PySem.Challenge.rw_wj0025_01).prog (w.withFollow "special-get-raises" false) 2080 ⟨boot_heap w.params, Array.mk [], boot_drawn, boot_toks, os⟩).map (fun s => (openSeen hview [Str.ofString "Whitespace"] (importedModules (OpenLaw.row PySem.Challenge.rw_wj0025_01).prog.main.body) (fun s => xlAt hview [] s && recOk (RowW.records (OpenRow.toRowW (OpenLaw.row PySem.Challenge.rw_wj0025_01))) s) true s, hhook.obs s))
    = some (openGood hview [Str.ofString "Whitespace"], hhook.val (w.withFollow "special-get-raises" false)) := by kernel_rfl
theorem left_t (w : World) (os : OsState) : (topFrom treeTable (OpenLaw.row PySem.Challenge.rw_wj0025_01).prog (w.withFollow "special-get-raises" true) 2080 ⟨boot_heap w.params, Array.mk [], boot_drawn, boot_toks, os⟩).map (fun s => (openSeen hview [Str.ofString "Whitespace"] (importedModules (OpenLaw.row PySem.Challenge.rw_wj0025_01).prog.main.body) (fun s => xlAt hview [] s && recOk (RowW.records (OpenRow.toRowW (OpenLaw.row PySem.Challenge.rw_wj0025_01))) s) true s, hhook.obs s))
    = some (openGood hview [Str.ofString "Whitespace"], hhook.val (w.withFollow "special-get-raises" true)) := by kernel_rfl
theorem left_e : opening (OpenLaw.row PySem.Challenge.rw_wj0025_01).prog = plainProg (OpenLaw.row PySem.Challenge.rw_wj0025_01).prog.main.scope.names := by kernel_rfl
theorem left_i (s : Shared) : fenceModules? (OpenLaw.row PySem.Challenge.rw_wj0025_01).prog s = some s := by kernel_rfl
theorem left : LeftO (OpenLaw.row PySem.Challenge.rw_wj0025_01).prog hview [Str.ofString "Whitespace"] (fun s => xlAt hview [] s && recOk (RowW.records (OpenRow.toRowW (OpenLaw.row PySem.Challenge.rw_wj0025_01))) s) hhook.obs hhook.val 2080 := leftBoot "special-get-raises" left_e rfl left_i fun b => match b with | false => left_f | true => left_t
end Mine
end

section
namespace Mine
noncomputable section
open PySem PySem.W PyProof.Rows PySem.Calls

noncomputable abbrev KF := hd.heap_1
noncomputable abbrev lse : List Str := looseW hview [Str.ofString "Whitespace"]

noncomputable def Ext (h h' : Heap) : Prop := ∀ b o, h.get? b = some o → h'.get? b = some o
theorem Ext.refl (h : Heap) : Ext h h := fun _ _ e => e
theorem Ext.trans {h₁ h₂ h₃ : Heap} (a : Ext h₁ h₂) (b : Ext h₂ h₃) : Ext h₁ h₃ := fun x o e => b x o (a x o e)
theorem Ext.push (h : Heap) (o : Obj) : Ext h (h.push o) := fun _ _ e => Heap.get?_push_of_some o e

structure TopOK (w : World) (h : Heap) : Prop where
  k : (KF w.params).In h
  t : ∃ mean mg mb, Top hview lse mean mg mb h
theorem TopOK.ext {w : World} {h h' : Heap} (x : TopOK w h) (e : Ext h h') : TopOK w h' :=
  ⟨x.k.keeps e, let ⟨a, b, c, t⟩ := x.t; ⟨a, b, c, t.keeps e⟩⟩

theorem TopOK.new_ne {w : World} {h : Heap} (x : TopOK w h) : (h.objs.size == sysModules) = false := by
  obtain ⟨a, b, c, t⟩ := x.t
  have h1 := t.g.lt
  have h2 : sysModules < mainGlobals := by decide
  exact beq_eq_false_iff_ne.mpr (Nat.ne_of_gt (Nat.lt_trans h2 h1))

inductive MO where
  | list (its : List Value)
  | tup (its : List Value)
  | dict (kvs : List (Str × Value))
  | cell (v : Option Value)
  | raw (o : Obj)

noncomputable def MO.is (w : World) : MO → Obj → Prop
  | .list its, o => ∃ n, o = { cls := .type "list", data := .seq its.toArray n }
  | .tup its, o => ∃ n, o = { cls := .type "tuple", data := .seq its.toArray n }
  | .dict kvs, o => o.IsDictOf (strKind PySem.Challenge.rw_wj0025_01.row.prog w) kvs
  | .cell v, o => o.data = .cell v
  | .raw o', o => o = o'

noncomputable def MO.low : MO → Addr → Prop
  | .dict _, a => (a == sysModules) = false
  | _, _ => True
theorem MO.low_of {mo : MO} {a : Addr} (h : (a == sysModules) = false) : mo.low a := by
  cases mo <;> first | exact h | trivial
noncomputable def Has (w : World) (h : Heap) (p : Addr × MO) : Prop := ∃ o, h.get? p.1 = some o ∧ p.2.is w o ∧ p.2.low p.1
theorem Has.ext {w : World} {h h' : Heap} {p : Addr × MO} (x : Has w h p) (e : Ext h h') : Has w h' p := let ⟨o, a, b⟩ := x; ⟨o, e _ _ a, b⟩
theorem Has.same {w : World} {h h' : Heap} {p : Addr × MO} {a : Addr} (x : Has w h p) (e : Heap.SameBut a h h') (n : p.1 ≠ a) : Has w h' p :=
  let ⟨o, u, b⟩ := x; ⟨o, (e.2 _ n).trans u, b⟩

structure Cx where
  w : World
  A : Around
  env : Env
  h₀ : Heap
  s₀ : Shared
  nm : List Str
  ro : Bool
  old : Str → Option Value := fun _ => none

noncomputable abbrev Vals := List (Option Value)
noncomputable abbrev Led := List (Addr × MO)

structure Rel (c : Cx) (g : Heap) (vals : Vals) (news : Led) (s : Shared) : Prop where
  same : ∃ h tk, s = { c.s₀ with heap := h, toks := tk }
  base : Ext c.h₀ g
  keep : Ext g s.heap
  ns : ∃ m, s.heap.Ns c.env.locals m ∧ (∀ (i : Nat) (x : Str) (v : Value), c.nm[i]? = some x → vals[i]? = some (some v) → m x = some v) ∧ ∀ x v, x ∉ c.nm → c.old x = some v → m x = some v
  led : ∀ p ∈ news, Has c.w s.heap p
  apart : (c.env.locals :: news.map (·.1)).Nodup
  fresh : ∀ p ∈ news, g.get? p.1 = none
  frame : if c.ro = true then ∀ o, s.heap.get? c.env.locals = some o → g.get? c.env.locals = some o else g.get? c.env.locals = none

noncomputable def AW {α : Type} (c : Cx) (t : Sem α) (vals : Vals) (news : Led) (Φ : α → Vals → Led → Prop) : Prop :=
  ∀ g s, Rel c g vals news s → wpAny (model PySem.Challenge.rw_wj0025_01.row.prog c.w) c.A t (fun a s' => ∃ vals' news', Rel c g vals' news' s' ∧ Φ a vals' news') (fun _ _ => False) s

section rel
variable {c : Cx} {g : Heap} {vals : Vals} {news : Led} {s : Shared}
theorem Rel.lives (R : Rel c g vals news s) : ∀ b ∈ c.env.locals :: news.map (·.1), ∃ o, s.heap.get? b = some o := by
  intro b hb
  rcases List.mem_cons.mp hb with rfl | hb
  · obtain ⟨m, ⟨o, _, _, ho, _⟩, _⟩ := R.ns; exact ⟨o, ho⟩
  · obtain ⟨p, hp, rfl⟩ := List.mem_map.mp hb
    obtain ⟨o, ho, _⟩ := R.led p hp; exact ⟨o, ho⟩
theorem Rel.tok (R : Rel c g vals news s) (t : Nat) : Rel c g vals news { s with toks := t } :=
  ⟨Exists.elim R.same fun h x => Exists.elim x fun _ e => ⟨h, t, by rw [e]⟩, R.base, R.keep, R.ns, R.led, R.apart, R.fresh, R.frame⟩
theorem Rel.same' (R : Rel c g vals news s) (h' : Heap) (tk : Nat) : ∃ h t, { s with heap := h', toks := tk } = { c.s₀ with heap := h, toks := t } :=
  Exists.elim R.same fun h x => Exists.elim x fun t e => ⟨h', tk, by rw [e]⟩
theorem Rel.frame' (R : Rel c g vals news s) {h' : Heap} (e : ∀ o, s.heap.get? c.env.locals = some o → h'.get? c.env.locals = some o) : if c.ro = true then ∀ o, h'.get? c.env.locals = some o → g.get? c.env.locals = some o else g.get? c.env.locals = none := by
  have f := R.frame
  by_cases hro : c.ro = true
  · rw [if_pos hro] at f ⊢
    intro o' ho'
    obtain ⟨o, ho⟩ := R.lives _ List.mem_cons_self
    have e2 : o' = o := Option.some.inj (ho'.symm.trans (e o ho))
    rw [e2]; exact f o ho
  · rw [if_neg hro] at f ⊢
    exact f
theorem Rel.grow (R : Rel c g vals news s) {h' : Heap} {tk : Nat} (e : Ext s.heap h') : Rel c g vals news { s with heap := h', toks := tk } where
  same := R.same' _ _
  base := R.base
  keep := R.keep.trans e
  ns := R.ns.imp fun m x => ⟨x.1.keeps e, x.2⟩
  led := fun p hp => (R.led p hp).ext e
  apart := R.apart
  fresh := R.fresh
  frame := R.frame' fun o q => e _ _ q
theorem Rel.kept (R : Rel c g vals news s) {s' : Shared} (k : Keeps s s') : Rel c g vals news s' := by
  obtain ⟨h', tk, rfl, e⟩ := k
  exact R.grow e
theorem Rel.add (R : Rel c g vals news s) {tl : Led} (nd : (tl.map (·.1)).Nodup) (h : ∀ p ∈ tl, Has c.w s.heap p ∧ p.1 ∉ c.env.locals :: news.map (·.1) ∧ g.get? p.1 = none) : Rel c g vals (tl ++ news) s where
  same := R.same
  base := R.base
  keep := R.keep
  ns := R.ns
  led := fun p hp => (List.mem_append.mp hp).elim (fun q => (h p q).1) (R.led p)
  apart := by
    have a := List.nodup_cons.mp R.apart
    rw [List.map_append]
    refine List.nodup_cons.mpr ⟨fun q => ?_, List.nodup_append.mpr ⟨nd, a.2, fun x hx y hy e => ?_⟩⟩
    · rcases List.mem_append.mp q with q | q
      · obtain ⟨p, hp, e⟩ := List.mem_map.mp q
        exact (h p hp).2.1 (e ▸ List.mem_cons_self)
      · exact a.1 q
    · obtain ⟨p, hp, rfl⟩ := List.mem_map.mp hx
      exact (h p hp).2.1 (List.mem_cons_of_mem _ (e ▸ hy))
  fresh := fun p hp => (List.mem_append.mp hp).elim (fun q => (h p q).2.2) (R.fresh p)
  frame := R.frame
theorem Rel.drop (R : Rel c g vals news s) {news' : Led} (h : news'.Sublist news) : Rel c g vals news' s where
  same := R.same
  base := R.base
  keep := R.keep
  ns := R.ns
  led := fun p hp => R.led p (h.subset hp)
  apart := R.apart.sublist ((h.map _).cons_cons _)
  fresh := fun p hp => R.fresh p (h.subset hp)
  frame := R.frame
theorem get_none_of_size (h : Heap) (a : Addr) (e : h.objs.size ≤ a) : h.get? a = none := by
  cases q : h.get? a with
  | none => rfl
  | some o => exact absurd (Heap.lt_size q) (Nat.not_lt.mpr e)
theorem Rel.new (R : Rel c g vals news s) (hT : TopOK c.w c.h₀) (o : Obj) (mo : MO) (hf : o.isFreed = false) (hm : mo.is c.w o) : Rel c g vals ((s.heap.objs.size, mo) :: news) { s with heap := s.heap.push o } := by
  have R' : Rel c g vals news { s with heap := s.heap.push o } := by
    obtain ⟨h, tk, e⟩ := R.same
    have := R.grow (h' := s.heap.push o) (tk := s.toks) (Ext.push _ _)
    exact this
  refine R'.add (tl := [(s.heap.objs.size, mo)]) (by simp) ?_
  intro p hp
  rw [List.mem_singleton.mp hp]
  refine ⟨⟨o, Heap.get?_push_size _ hf, hm, MO.low_of (hT.ext (R.base.trans R.keep)).new_ne⟩, fun q => ?_, ?_⟩
  · obtain ⟨o', ho'⟩ := R.lives _ q
    exact Nat.lt_irrefl _ (Heap.lt_size ho')
  · cases q : g.get? s.heap.objs.size with
    | none => rfl
    | some o' => exact absurd (Heap.lt_size (R.keep _ _ q)) (Nat.lt_irrefl _)

/-- the head of a ledger's entry, found by its address -/
inductive Upd (a : Addr) (mo : MO) : Led → Led → Prop where
  | here {x r} : Upd a mo ((a, x) :: r) ((a, mo) :: r)
  | there {p r r'} : Upd a mo r r' → Upd a mo (p :: r) (p :: r')
theorem Upd.addrs {a : Addr} {mo : MO} {l l' : Led} (u : Upd a mo l l') : l'.map (·.1) = l.map (·.1) := by
  induction u with
  | here => rfl
  | there _ ih => simp [ih]
theorem Upd.mem {a : Addr} {mo : MO} {l l' : Led} (u : Upd a mo l l') (nd : (l.map (·.1)).Nodup) : ∀ p ∈ l', (p.1 = a ∧ p.2 = mo) ∨ (p.1 ≠ a ∧ p ∈ l) := by
  induction u with
  | @here x r =>
    intro p h
    have nd' := List.nodup_cons.mp nd
    rcases List.mem_cons.mp h with rfl | h
    · exact .inl ⟨rfl, rfl⟩
    · exact .inr ⟨fun q => nd'.1 (by show a ∈ _; rw [← q]; exact List.mem_map_of_mem (f := (·.1)) h), List.mem_cons_of_mem _ h⟩
  | @there q r r' u ih =>
    intro p h
    have nd' := List.nodup_cons.mp nd
    rcases List.mem_cons.mp h with rfl | h
    · refine .inr ⟨fun e => nd'.1 ?_, List.mem_cons_self⟩
      show p.1 ∈ _
      rw [e, ← u.addrs]
      clear ih nd nd' h
      induction u with
      | here => exact List.mem_cons_self
      | there _ ih => exact List.mem_cons_of_mem _ ih
    · exact (ih nd'.2 p h).imp id fun z => ⟨z.1, List.mem_cons_of_mem _ z.2⟩
theorem Upd.at {a : Addr} {mo : MO} {l l' : Led} (u : Upd a mo l l') : a ∈ l.map (·.1) := by
  induction u with
  | here => exact List.mem_cons_self
  | there _ ih => exact List.mem_cons_of_mem _ ih
theorem Rel.upd (R : Rel c g vals news s) {a : Addr} {mo : MO} {news' : Led} (u : Upd a mo news news') {h' : Heap} {tk : Nat} (hs : Heap.SameBut a s.heap h') (hm : Has c.w h' (a, mo)) :
    Rel c g vals news' { s with heap := h', toks := tk } := by
  have aL : c.env.locals ≠ a := fun e => (List.nodup_cons.mp R.apart).1 (e ▸ u.at)
  have ag : g.get? a = none := by
    obtain ⟨p, hp, e⟩ := List.mem_map.mp u.at
    rw [← e]; exact R.fresh p hp
  have keep : ∀ b o, b ≠ a → s.heap.get? b = some o → h'.get? b = some o := fun b o n e => (hs.2 b n).trans e
  refine ⟨R.same' _ _, R.base, ?_, R.ns.imp fun m x => ⟨x.1.sameBut hs aL, x.2⟩, ?_, by rw [u.addrs]; exact R.apart, ?_, R.frame' fun o q => keep _ _ aL q⟩
  · intro b o e
    exact keep b o (fun q => by rw [q, ag] at e; cases e) (R.keep b o e)
  · intro p hp
    rcases u.mem (List.nodup_cons.mp R.apart).2 p hp with ⟨e1, e2⟩ | ⟨e1, e2⟩
    · obtain ⟨b, x⟩ := p
      dsimp only at e1 e2; subst e1 e2; exact hm
    · exact (R.led p e2).same hs e1
  · intro p hp
    rcases u.mem (List.nodup_cons.mp R.apart).2 p hp with ⟨e1, _⟩ | ⟨_, e2⟩
    · rw [e1]; exact ag
    · exact R.fresh p e2
end rel

end
end Mine
end

section
namespace Mine
open PySem PySem.W PyProof.Rows PySem.Calls

noncomputable abbrev MD (w : World) : Model := model PySem.Challenge.rw_wj0025_01.row.prog w

section
variable {α β : Type} {c : Cx} {g : Heap} {vals : Vals} {news : Led} {s : Shared}
/-- a step, then what follows -/
theorem AW.then {t : Sem α} {Φ : α → Vals → Led → Prop} (h : AW c t vals news Φ) (R : Rel c g vals news s) {Q : α → Shared → Prop} {E : Value → Shared → Prop} (k : ∀ a s' v n, Rel c g v n s' → Φ a v n → Q a s') : wpAny (MD c.w) c.A t Q E s :=
  wpAny_mono (h g s R) (fun a s' z => Exists.elim z fun v z => Exists.elim z fun n z => k a s' v n z.1 z.2) fun _ _ e => e.elim
noncomputable def Seq (Ψ : Vals → Led → Prop) (Φ : Flow → Vals → Led → Prop) : Flow → Vals → Led → Prop := fun f v n => match f with | .next => Ψ v n | f => Φ f v n
noncomputable abbrev Turn (I : Vals → Led → Prop) (Φ : Flow → Vals → Led → Prop) : Flow → Vals → Led → Prop := fun f v n => match f with | .next | .cont => I v n | .brk => Φ .next v n | .ret x => Φ (.ret x) v n
theorem AW.mono {t : Sem α} {Φ Φ' : α → Vals → Led → Prop} (h : AW c t vals news Φ) (k : ∀ a v n, Φ a v n → Φ' a v n) : AW c t vals news Φ' :=
  fun g s R => AW.then h R fun a _ v n r p => ⟨v, n, r, k a v n p⟩
/-- what is to hold at the end, by a letter -/
theorem AW.hide {t : Sem α} {Φ : α → Vals → Led → Prop} (h : ∀ Ψ : α → Vals → Led → Prop, (∀ a v n, Φ a v n → Ψ a v n) → AW c t vals news Ψ) : AW c t vals news Φ := h Φ fun _ _ _ q => q
theorem AW.pure {a : α} {Φ : α → Vals → Led → Prop} (h : Φ a vals news) : AW c (pure a) vals news Φ :=
  fun _ _ R => wpAny_pure ⟨_, _, R, h⟩
theorem AW.bind {t : Sem α} {f : α → Sem β} {Φ : β → Vals → Led → Prop} (h : AW c t vals news fun a v n => AW c (f a) v n Φ) : AW c (t >>= f) vals news Φ :=
  fun g s R => wpAny_bind (AW.then h R fun _ _ _ _ r p => p g _ r)
theorem AW.drop {t : Sem α} {news' : Led} {Φ : α → Vals → Led → Prop} (hs : news'.Sublist news) (h : AW c t vals news' Φ) : AW c t vals news Φ :=
  fun g s R => h g s (R.drop hs)
/-- what leaves all that stood as it stood, and makes new objects -/
theorem AW.of_keeps {t : Sem α} {R : α → Led → Prop} {Φ : α → Vals → Led → Prop}
    (h : ∀ g s, Rel c g vals news s → wpAny (MD c.w) c.A t (fun a s' => Keeps s s' ∧ ∃ tl, R a tl ∧ (tl.map (·.1)).Nodup ∧ ∀ p ∈ tl, Has c.w s'.heap p ∧ s.heap.get? p.1 = none) (fun _ _ => False) s)
    (k : ∀ a tl, R a tl → Φ a vals (tl ++ news)) : AW c t vals news Φ := by
  intro g s r
  refine wpAny_mono (h g s r) (fun a s' ⟨hk, tl, hR, nd, ht⟩ => ?_) fun _ _ e => e
  refine ⟨vals, tl ++ news, (r.kept hk).add nd fun p hp => ⟨(ht p hp).1, fun q => ?_, ?_⟩, k a tl hR⟩
  · obtain ⟨o, ho⟩ := r.lives _ q
    rw [(ht p hp).2] at ho; cases ho
  · cases q : g.get? p.1 with
    | none => rfl
    | some o => have := r.keep _ _ q; rw [(ht p hp).2] at this; cases this
/-- what makes a value and touches the tokens alone -/
theorem AW.of_tok {t : Sem α} {Φ : α → Vals → Led → Prop} (P : α → Prop)
    (h : ∀ s, (∀ p ∈ news, Has c.w s.heap p) → Ext c.h₀ s.heap → wpAny (MD c.w) c.A t (fun a s' => P a ∧ ∃ n, s' = { s with toks := n }) (fun _ _ => False) s)
    (k : ∀ a, P a → Φ a vals news) : AW c t vals news Φ := by
  intro g s r
  refine wpAny_mono (h s r.led (r.base.trans r.keep)) (fun a s' ⟨hp, n, e⟩ => ?_) fun _ _ e => e
  subst e
  exact ⟨vals, news, r.tok n, k a hp⟩

structure Ok (c : Cx) : Prop where
  han : c.A.handled = none
  top : TopOK c.w c.h₀
  glo : c.env.globals = mainGlobals
  blt : c.env.builtins = builtinsNs
  kind : c.env.scope.kind = .function
  nd : c.nm.Nodup

noncomputable def HasL (c : Cx) (news : Led) (p : Addr × MO) : Prop := p ∈ news ∨ Has c.w c.h₀ p
theorem Rel.has (R : Rel c g vals news s) {p : Addr × MO} (h : HasL c news p) : Has c.w s.heap p :=
  h.elim (R.led p) fun q => q.ext (R.base.trans R.keep)

inductive LookV : List Str → Vals → Str → Value → Prop where
  | here {x v ns vs} : LookV (x :: ns) (some v :: vs) x v
  | there {y w x v ns vs} : LookV ns vs x v → LookV (y :: ns) (w :: vs) x v
theorem LookV.idx {ns : List Str} {vs : Vals} {x : Str} {v : Value} (h : LookV ns vs x v) : ∃ i : Nat, ns[i]? = some x ∧ vs[i]? = some (some v) := by
  induction h with
  | here => exact ⟨0, rfl, rfl⟩
  | there _ ih => obtain ⟨i, a, b⟩ := ih; exact ⟨i + 1, by simpa using a, by simpa using b⟩
inductive SetV : List Str → Vals → Str → Value → Vals → Prop where
  | here {x v o ns vs} : SetV (x :: ns) (o :: vs) x v (some v :: vs)
  | there {y w x v ns vs vs'} : SetV ns vs x v vs' → SetV (y :: ns) (w :: vs) x v (w :: vs')
theorem SetV.mem {ns : List Str} {vs vs' : Vals} {x : Str} {v : Value} (h : SetV ns vs x v vs') : x ∈ ns := by
  induction h with
  | here => exact List.mem_cons_self
  | there _ ih => exact List.mem_cons_of_mem _ ih
theorem SetV.get {ns : List Str} {vs vs' : Vals} {x : Str} {v : Value} (h : SetV ns vs x v vs') (nd : ns.Nodup) :
    ∀ (i : Nat) (y : Str) (u : Value), ns[i]? = some y → vs'[i]? = some (some u) → (y = x ∧ u = v) ∨ (y ≠ x ∧ vs[i]? = some (some u)) := by
  induction h with
  | @here x v o ns vs =>
    intro i y u h1 h2
    have nd' := List.nodup_cons.mp nd
    cases i with
    | zero => simp at h1 h2; exact .inl ⟨h1.symm, h2.symm⟩
    | succ i =>
      simp at h1 h2
      exact .inr ⟨fun e => nd'.1 (e ▸ List.mem_of_getElem? h1), by simpa using h2⟩
  | @there z w x v ns vs vs' hh ih =>
    intro i y u h1 h2
    have nd' := List.nodup_cons.mp nd
    cases i with
    | zero =>
      simp at h1 h2
      exact .inr ⟨fun e => nd'.1 (by rw [h1, e]; exact hh.mem), by simp [h2]⟩
    | succ i =>
      simp at h1 h2
      rcases ih nd'.2 i y u h1 h2 with q | q
      · exact .inl q
      · exact .inr ⟨q.1, by simpa using q.2⟩

theorem LookV.l1 {n0 x : Str} {w0 : Option Value} {v : Value} {ns : List Str} {vs : Vals} : LookV (n0 :: x :: ns) (w0 :: some v :: vs) x v := .there (.here)
theorem LookV.l2 {n0 n1 x : Str} {w0 w1 : Option Value} {v : Value} {ns : List Str} {vs : Vals} : LookV (n0 :: n1 :: x :: ns) (w0 :: w1 :: some v :: vs) x v := .there (.there (.here))
theorem LookV.l3 {n0 n1 n2 x : Str} {w0 w1 w2 : Option Value} {v : Value} {ns : List Str} {vs : Vals} : LookV (n0 :: n1 :: n2 :: x :: ns) (w0 :: w1 :: w2 :: some v :: vs) x v := .there (.there (.there (.here)))
theorem LookV.l4 {n0 n1 n2 n3 x : Str} {w0 w1 w2 w3 : Option Value} {v : Value} {ns : List Str} {vs : Vals} : LookV (n0 :: n1 :: n2 :: n3 :: x :: ns) (w0 :: w1 :: w2 :: w3 :: some v :: vs) x v := .there (.there (.there (.there (.here))))
theorem LookV.l5 {n0 n1 n2 n3 n4 x : Str} {w0 w1 w2 w3 w4 : Option Value} {v : Value} {ns : List Str} {vs : Vals} : LookV (n0 :: n1 :: n2 :: n3 :: n4 :: x :: ns) (w0 :: w1 :: w2 :: w3 :: w4 :: some v :: vs) x v := .there (.there (.there (.there (.there (.here)))))
theorem LookV.l6 {n0 n1 n2 n3 n4 n5 x : Str} {w0 w1 w2 w3 w4 w5 : Option Value} {v : Value} {ns : List Str} {vs : Vals} : LookV (n0 :: n1 :: n2 :: n3 :: n4 :: n5 :: x :: ns) (w0 :: w1 :: w2 :: w3 :: w4 :: w5 :: some v :: vs) x v := .there (.there (.there (.there (.there (.there (.here))))))
theorem LookV.l7 {n0 n1 n2 n3 n4 n5 n6 x : Str} {w0 w1 w2 w3 w4 w5 w6 : Option Value} {v : Value} {ns : List Str} {vs : Vals} : LookV (n0 :: n1 :: n2 :: n3 :: n4 :: n5 :: n6 :: x :: ns) (w0 :: w1 :: w2 :: w3 :: w4 :: w5 :: w6 :: some v :: vs) x v := .there (.there (.there (.there (.there (.there (.there (.here)))))))
theorem LookV.t8 {n0 n1 n2 n3 n4 n5 n6 n7 x : Str} {w0 w1 w2 w3 w4 w5 w6 w7 : Option Value} {v : Value} {ns : List Str} {vs : Vals} (h : LookV ns vs x v) : LookV (n0 :: n1 :: n2 :: n3 :: n4 :: n5 :: n6 :: n7 :: ns) (w0 :: w1 :: w2 :: w3 :: w4 :: w5 :: w6 :: w7 :: vs) x v := .there (.there (.there (.there (.there (.there (.there (.there (h))))))))
theorem SetV.s1 {n0 x : Str} {w0 o : Option Value} {v : Value} {ns : List Str} {vs : Vals} : SetV (n0 :: x :: ns) (w0 :: o :: vs) x v (w0 :: some v :: vs) := .there (.here)
theorem SetV.s2 {n0 n1 x : Str} {w0 w1 o : Option Value} {v : Value} {ns : List Str} {vs : Vals} : SetV (n0 :: n1 :: x :: ns) (w0 :: w1 :: o :: vs) x v (w0 :: w1 :: some v :: vs) := .there (.there (.here))
theorem SetV.s3 {n0 n1 n2 x : Str} {w0 w1 w2 o : Option Value} {v : Value} {ns : List Str} {vs : Vals} : SetV (n0 :: n1 :: n2 :: x :: ns) (w0 :: w1 :: w2 :: o :: vs) x v (w0 :: w1 :: w2 :: some v :: vs) := .there (.there (.there (.here)))
theorem SetV.s4 {n0 n1 n2 n3 x : Str} {w0 w1 w2 w3 o : Option Value} {v : Value} {ns : List Str} {vs : Vals} : SetV (n0 :: n1 :: n2 :: n3 :: x :: ns) (w0 :: w1 :: w2 :: w3 :: o :: vs) x v (w0 :: w1 :: w2 :: w3 :: some v :: vs) := .there (.there (.there (.there (.here))))
theorem SetV.s5 {n0 n1 n2 n3 n4 x : Str} {w0 w1 w2 w3 w4 o : Option Value} {v : Value} {ns : List Str} {vs : Vals} : SetV (n0 :: n1 :: n2 :: n3 :: n4 :: x :: ns) (w0 :: w1 :: w2 :: w3 :: w4 :: o :: vs) x v (w0 :: w1 :: w2 :: w3 :: w4 :: some v :: vs) := .there (.there (.there (.there (.there (.here)))))
theorem SetV.s6 {n0 n1 n2 n3 n4 n5 x : Str} {w0 w1 w2 w3 w4 w5 o : Option Value} {v : Value} {ns : List Str} {vs : Vals} : SetV (n0 :: n1 :: n2 :: n3 :: n4 :: n5 :: x :: ns) (w0 :: w1 :: w2 :: w3 :: w4 :: w5 :: o :: vs) x v (w0 :: w1 :: w2 :: w3 :: w4 :: w5 :: some v :: vs) := .there (.there (.there (.there (.there (.there (.here))))))
theorem SetV.s7 {n0 n1 n2 n3 n4 n5 n6 x : Str} {w0 w1 w2 w3 w4 w5 w6 o : Option Value} {v : Value} {ns : List Str} {vs : Vals} : SetV (n0 :: n1 :: n2 :: n3 :: n4 :: n5 :: n6 :: x :: ns) (w0 :: w1 :: w2 :: w3 :: w4 :: w5 :: w6 :: o :: vs) x v (w0 :: w1 :: w2 :: w3 :: w4 :: w5 :: w6 :: some v :: vs) := .there (.there (.there (.there (.there (.there (.there (.here)))))))
theorem SetV.t8 {n0 n1 n2 n3 n4 n5 n6 n7 x : Str} {w0 w1 w2 w3 w4 w5 w6 w7 : Option Value} {v : Value} {ns : List Str} {vs vs' : Vals} (h : SetV ns vs x v vs') : SetV (n0 :: n1 :: n2 :: n3 :: n4 :: n5 :: n6 :: n7 :: ns) (w0 :: w1 :: w2 :: w3 :: w4 :: w5 :: w6 :: w7 :: vs) x v (w0 :: w1 :: w2 :: w3 :: w4 :: w5 :: w6 :: w7 :: vs') := .there (.there (.there (.there (.there (.there (.there (.there (h))))))))
theorem Upd.u1 {a : Addr} {x mo : MO} {p0 : Addr × MO} {r : Led} : Upd a mo (p0 :: (a, x) :: r) (p0 :: (a, mo) :: r) := .there (.here)
theorem memL1 {p p0 : Addr × MO} {r : Led} : p ∈ p0 :: p :: r := List.mem_cons_of_mem _ ( List.mem_cons_self)
theorem Upd.u2 {a : Addr} {x mo : MO} {p0 p1 : Addr × MO} {r : Led} : Upd a mo (p0 :: p1 :: (a, x) :: r) (p0 :: p1 :: (a, mo) :: r) := .there (.there (.here))
theorem memL2 {p p0 p1 : Addr × MO} {r : Led} : p ∈ p0 :: p1 :: p :: r := List.mem_cons_of_mem _ (List.mem_cons_of_mem _ ( List.mem_cons_self))
theorem Upd.u3 {a : Addr} {x mo : MO} {p0 p1 p2 : Addr × MO} {r : Led} : Upd a mo (p0 :: p1 :: p2 :: (a, x) :: r) (p0 :: p1 :: p2 :: (a, mo) :: r) := .there (.there (.there (.here)))
theorem memL3 {p p0 p1 p2 : Addr × MO} {r : Led} : p ∈ p0 :: p1 :: p2 :: p :: r := List.mem_cons_of_mem _ (List.mem_cons_of_mem _ (List.mem_cons_of_mem _ ( List.mem_cons_self)))
theorem Upd.u4 {a : Addr} {x mo : MO} {p0 p1 p2 p3 : Addr × MO} {r : Led} : Upd a mo (p0 :: p1 :: p2 :: p3 :: (a, x) :: r) (p0 :: p1 :: p2 :: p3 :: (a, mo) :: r) := .there (.there (.there (.there (.here))))
theorem memL4 {p p0 p1 p2 p3 : Addr × MO} {r : Led} : p ∈ p0 :: p1 :: p2 :: p3 :: p :: r := List.mem_cons_of_mem _ (List.mem_cons_of_mem _ (List.mem_cons_of_mem _ (List.mem_cons_of_mem _ ( List.mem_cons_self))))
theorem Upd.u5 {a : Addr} {x mo : MO} {p0 p1 p2 p3 p4 : Addr × MO} {r : Led} : Upd a mo (p0 :: p1 :: p2 :: p3 :: p4 :: (a, x) :: r) (p0 :: p1 :: p2 :: p3 :: p4 :: (a, mo) :: r) := .there (.there (.there (.there (.there (.here)))))
theorem memL5 {p p0 p1 p2 p3 p4 : Addr × MO} {r : Led} : p ∈ p0 :: p1 :: p2 :: p3 :: p4 :: p :: r := List.mem_cons_of_mem _ (List.mem_cons_of_mem _ (List.mem_cons_of_mem _ (List.mem_cons_of_mem _ (List.mem_cons_of_mem _ ( List.mem_cons_self)))))
theorem AW.loadL {x : Str} {v : Value} {Φ : Value → Vals → Led → Prop} (G : Ok c) (hl : LookV c.nm vals x v) (hx : c.env.kindOf x = some .local) (h : Φ v vals news) : AW c (loadName c.env x) vals news Φ := by
  intro g s R
  obtain ⟨m, hn, hv⟩ := R.ns
  obtain ⟨i, a, b⟩ := hl.idx
  exact wpAny_loadName_local G.kind hx hn (hv.1 i x v a b) ⟨_, _, R, h⟩
theorem AW.nameL {x : Str} {pos : Pos} {v : Value} {Φ : Value → Vals → Led → Prop} (G : Ok c) (hl : LookV c.nm vals x v) (hx : c.env.kindOf x = some .local) (hd : (x == ("__debug__" : Str)) = false) (h : Φ v vals news) :
    AW c (eval (.Name x pos) c.env) vals news Φ := fun g s R => wpAny_Name (AW.loadL G hl hx h g s R) hd
theorem AW.loadC {x : Str} {a : Addr} {v : Value} {Φ : Value → Vals → Led → Prop} (G : Ok c) (hc : c.env.cells.lookup x = some a) (hm : HasL c news (a, .cell (some v))) (hx : c.env.kindOf x = some .cell) (h : Φ v vals news) :
    AW c (loadName c.env x) vals news Φ := by
  intro g s R
  obtain ⟨o, ho, hd, _⟩ := R.has hm
  exact wpAny_loadName_cell G.kind hx hc ⟨o, ho, hd⟩ ⟨_, _, R, h⟩
theorem AW.nameC {x : Str} {pos : Pos} {a : Addr} {v : Value} {Φ : Value → Vals → Led → Prop} (G : Ok c) (hc : c.env.cells.lookup x = some a) (hm : HasL c news (a, .cell (some v))) (hx : c.env.kindOf x = some .cell)
    (hd : (x == ("__debug__" : Str)) = false) (h : Φ v vals news) : AW c (eval (.Name x pos) c.env) vals news Φ := fun g s R => wpAny_Name (AW.loadC G hc hm hx h g s R) hd
theorem AW.nameG {x : Str} {pos : Pos} {v : Value} {Φ : Value → Vals → Led → Prop} (G : Ok c) (e : nsIn (KF c.w.params) mainGlobals x = some (some v)) (hx : c.env.kindOf x = some .globalImplicit)
    (hd : (x == ("__debug__" : Str)) = false) (h : Φ v vals news) : AW c (eval (.Name x pos) c.env) vals news Φ := by
  intro g s R
  obtain ⟨mean, mg, mb, T⟩ := (G.top.ext (R.base.trans R.keep)).t
  exact Name_function_global G.kind hx (loadGlobal_global (mg := mg) (by rw [G.glo]; exact T.g) (mg_of (G.top.ext (R.base.trans R.keep)).k T.g e) ⟨_, _, R, h⟩) hd
theorem AW.nameB {x : Str} {pos : Pos} {v : Value} {Φ : Value → Vals → Led → Prop} (G : Ok c) (e : nsIn (KF c.w.params) mainGlobals x = some none) (hv : bootBuiltins x = some v) (hn : x ≠ "__name__") (hx : c.env.kindOf x = some .globalImplicit)
    (hd : (x == ("__debug__" : Str)) = false) (h : Φ v vals news) : AW c (eval (.Name x pos) c.env) vals news Φ := by
  intro g s R
  obtain ⟨mean, mg, mb, T⟩ := (G.top.ext (R.base.trans R.keep)).t
  exact Name_function_global G.kind hx (loadGlobal_builtin (mg := mg) (mb := mb) (by rw [G.glo]; exact T.g) (mg_none_of (G.top.ext (R.base.trans R.keep)).k T.g e) (by rw [G.blt]; exact T.b) ((T.builtins x hn).trans hv) ⟨_, _, R, h⟩) hd

theorem Rel.store (R : Rel c g vals news s) (nd : c.nm.Nodup) (hro : c.ro = false) {x : Str} {v : Value} {vals' : Vals} (hs : SetV c.nm vals x v vals') {m : Str → Option Value} {h' : Heap} {tk : Nat}
    (hm : (∀ (i : Nat) (y : Str) (u : Value), c.nm[i]? = some y → vals[i]? = some (some u) → m y = some u) ∧ ∀ x v, x ∉ c.nm → c.old x = some v → m x = some v)
    (hn : h'.Ns c.env.locals (fun y => if y = x then some v else m y)) (hb : Heap.SameBut c.env.locals s.heap h') : Rel c g vals' news { s with heap := h', toks := tk } := by
  have f := R.frame
  rw [hro, if_neg Bool.false_ne_true] at f
  refine ⟨?_, R.base, ?_, ?_, ?_, R.apart, R.fresh, ?_⟩
  · obtain ⟨h, t, e⟩ := R.same
    exact ⟨h', tk, by rw [e]⟩
  · intro b o e
    exact (hb.2 b fun q => by rw [q, f] at e; cases e).trans (R.keep b o e)
  · refine ⟨_, hn, fun i y u h1 h2 => ?_, fun y u h1 h2 => (if_neg fun e : y = x => h1 (by rw [e]; exact hs.mem)).trans (hm.2 y u h1 h2)⟩
    rcases hs.get nd i y u h1 h2 with ⟨e1, e2⟩ | ⟨e1, e2⟩
    · show (if y = x then some v else m y) = some u
      rw [if_pos e1, e2]
    · show (if y = x then some v else m y) = some u
      rw [if_neg e1]; exact hm.1 i y u h1 e2
  · intro p hp
    exact (R.led p hp).same hb fun e => (List.nodup_cons.mp R.apart).1 (e ▸ List.mem_map_of_mem hp)
  · rw [hro, if_neg Bool.false_ne_true]; exact f
theorem AW.storeL {x : Str} {v : Value} {vals' : Vals} {Φ : Unit → Vals → Led → Prop} (G : Ok c) (hs : SetV c.nm vals x v vals') (hx : c.env.kindOf x = some .local) (hro : c.ro = false) (h : Φ () vals' news) :
    AW c (storeName c.env x v) vals news Φ := by
  intro g s R
  obtain ⟨m, hn, hv⟩ := R.ns
  refine wpAny_storeName_local hx hn (fun h' hn' hb => ⟨vals', news, R.store G.nd hro hs hv hn' hb, h⟩) ?_
  rw [G.kind]; rfl
theorem AW.storeC {x : Str} {a : Addr} {v : Value} {v₀ : Option Value} {news' : Led} {Φ : Unit → Vals → Led → Prop} (G : Ok c) (hc : c.env.cells.lookup x = some a) (hm : (a, .cell v₀) ∈ news) (hx : c.env.kindOf x = some .cell)
    (u : Upd a (.cell (some v)) news news') (h : Φ () vals news') : AW c (storeName c.env x v) vals news Φ := by
  intro g s R
  obtain ⟨o, ho, hd, hz⟩ := R.led _ hm
  refine wpAny_storeName_cell G.kind hx hc ⟨o, ho, hd⟩ fun h' hv hb => ?_
  obtain ⟨o', ho', hd'⟩ := hv
  exact ⟨vals, news', R.upd (tk := s.toks) u hb ⟨o', ho', hd', hz⟩, h⟩

/-! statements -/
theorem AW.nil {Φ : Flow → Vals → Led → Prop} (h : Φ .next vals news) : AW c (execs [] c.env) vals news Φ := fun _ _ R => wpAny_execs_nil ⟨_, _, R, h⟩
theorem AW.cons0 {st : Stmt} {rest : List Stmt} {Φ : Flow → Vals → Led → Prop}
    (h : AW c (exec st c.env) vals news (Seq (fun v n => AW c (execs rest c.env) v n Φ) Φ)) : AW c (execs (st :: rest) c.env) vals news Φ := by
  intro g s R
  refine wpAny_execs_cons (h.then R fun f s' v n r p => ?_)
  cases f
  · exact p g _ r
  all_goals exact ⟨v, n, r, p⟩
theorem AW.cons {st : Stmt} {rest : List Stmt} {Φ : Flow → Vals → Led → Prop} (h : ∀ Ψ : Vals → Led → Prop, (∀ v n, AW c (execs rest c.env) v n Φ → Ψ v n) → AW c (exec st c.env) vals news (Seq Ψ Φ)) : AW c (execs (st :: rest) c.env) vals news Φ :=
  AW.cons0 (h _ fun _ _ q => q)
theorem Seq.go {rest : List Stmt} {Ψ : Vals → Led → Prop} {Φ Φ' : Flow → Vals → Led → Prop} (h : ∀ v n, AW c (execs rest c.env) v n Φ' → Ψ v n) (p : AW c (execs rest c.env) vals news Φ') : Seq Ψ Φ .next vals news := h _ _ p
theorem Seq.ret {Ψ : Vals → Led → Prop} {Φ : Flow → Vals → Led → Prop} {x : Value} (p : Φ (.ret x) vals news) : Seq Ψ Φ (.ret x) vals news := p
theorem Seq.brk {Ψ : Vals → Led → Prop} {Φ : Flow → Vals → Led → Prop} (p : Φ .brk vals news) : Seq Ψ Φ .brk vals news := p
theorem AW.assignN {x : Str} {pos' pos : Pos} {value : Expr} {Φ : Flow → Vals → Led → Prop} (hs : swapsWith value (some (.Name x pos')) pos.line c.env = Pure.pure false)
    (h : AW c (eval value c.env) vals news fun a v n => AW c (storeName c.env x a) v n fun _ => Φ .next) : AW c (exec (.Assign [.Name x pos'] value pos) c.env) vals news Φ :=
  fun g s R => wpAny_Assign_Name (AW.then h R fun _ _ _ _ r p => p g _ r) hs
theorem AW.augN {x : Str} {pos' pos : Pos} {op : Operator} {value : Expr} {Φ : Flow → Vals → Led → Prop}
    (h : AW c (loadName c.env x) vals news fun a v n => AW c (eval value c.env) v n fun b v n => AW c (inplaceOp op a b) v n fun r v n => AW c (storeName c.env x r) v n fun _ => Φ .next) :
    AW c (exec (.AugAssign (.Name x pos') op value pos) c.env) vals news Φ :=
  fun g s R => wpAny_AugAssign_Name (AW.then h R fun _ _ _ _ r p => AW.then p r fun _ _ _ _ r p => AW.then p r fun _ _ _ _ r p => p g _ r)
theorem AW.if_ {test : Expr} {body orelse : List Stmt} {pos : Pos} {Φ : Flow → Vals → Led → Prop}
    (h : AW c (isTrue test c.env (eval test c.env)) vals news fun b v n => if b then AW c (execs body c.env) v n Φ else AW c (execs orelse c.env) v n Φ) : AW c (exec (.If test body orelse pos) c.env) vals news Φ := by
  intro g s R
  refine wpAny_If (AW.then h R fun b s' v n r p => ?_)
  cases b
  · exact p g _ r
  · exact p g _ r
theorem AW.ret {e : Expr} {pos : Pos} {Φ : Flow → Vals → Led → Prop} (h : AW c (eval e c.env) vals news fun a => Φ (.ret a)) : AW c (exec (.Return (some e) pos) c.env) vals news Φ :=
  fun g s R => wpAny_Return_some (h g s R)
theorem AW.brk {pos : Pos} {Φ : Flow → Vals → Led → Prop} (h : Φ .brk vals news) : AW c (exec (.Break pos) c.env) vals news Φ :=
  fun _ _ R => wpAny_Break ⟨_, _, R, h⟩

/-! tests -/
theorem AW.tCmp {l r : Expr} {op : CmpOp} {pos : Pos} {whole : Sem Value} {Φ : Bool → Vals → Led → Prop} (hm : behindInMarks op r = false)
    (h : AW c (eval l c.env) vals news fun a v n => AW c (eval r c.env) v n fun b v n => AW c (compareOp op a b) v n fun x v n => AW c (truthy x) v n Φ) : AW c (isTrue (.Compare l [op] [r] pos) c.env whole) vals news Φ :=
  fun g s R => wpAny_isTrue_Compare1 (AW.then h R fun _ _ _ _ r p => AW.then p r fun _ _ _ _ r p => AW.then p r fun _ _ _ _ r p => p g _ r) hm
theorem AW.tNot {x : Expr} {pos : Pos} {whole : Sem Value} {Φ : Bool → Vals → Led → Prop} (h : AW c (isTrue x c.env (eval x c.env)) vals news fun b => Φ (!b)) : AW c (isTrue (.UnaryOp .Not x pos) c.env whole) vals news Φ :=
  fun g s R => wpAny_isTrue_Not (h g s R)
theorem AW.tPlain {e : Expr} {whole : Sem Value} {Φ : Bool → Vals → Led → Prop} (h : AW c whole vals news fun a v n => AW c (truthy a) v n Φ)
    (he : isTrue e c.env whole = (do let v ← whole; standAt e.pos; holding [v] (truthy v))) : AW c (isTrue e c.env whole) vals news Φ :=
  fun g s R => wpAny_isTrue_value (AW.then h R fun _ _ _ _ r p => p g _ r) he
theorem AW.tAnd2 {x y : Expr} {pos : Pos} {whole : Sem Value} {Φ : Bool → Vals → Led → Prop}
    (h : AW c (isTrue x c.env (eval x c.env)) vals news fun b v n => if b then AW c (isTrue y c.env (eval y c.env)) v n Φ else Φ false v n) : AW c (isTrue (.BoolOp .And [x, y] pos) c.env whole) vals news Φ := by
  intro g s R
  refine wpAny_isTrue_BoolOp (wpAny_allTrue_And_cons (AW.then h R fun b s' v n r p => ?_))
  cases b
  · exact ⟨v, n, r, p⟩
  · refine wpAny_allTrue_And_cons (AW.then p r fun b s' v n r p => ?_)
    cases b
    · exact ⟨v, n, r, p⟩
    · exact wpAny_allTrue_And_nil ⟨v, n, r, p⟩
theorem AW.tOr2 {x y : Expr} {pos : Pos} {whole : Sem Value} {Φ : Bool → Vals → Led → Prop}
    (h : AW c (isTrue x c.env (eval x c.env)) vals news fun b v n => if b then Φ true v n else AW c (isTrue y c.env (eval y c.env)) v n Φ) : AW c (isTrue (.BoolOp .Or [x, y] pos) c.env whole) vals news Φ := by
  intro g s R
  refine wpAny_isTrue_BoolOp (wpAny_allTrue_Or_cons (AW.then h R fun b s' v n r p => ?_))
  cases b
  · refine wpAny_allTrue_Or_cons (AW.then p r fun b s' v n r p => ?_)
    cases b
    · exact wpAny_allTrue_Or_nil ⟨v, n, r, p⟩
    · exact ⟨v, n, r, p⟩
  · exact ⟨v, n, r, p⟩
theorem AW.truthyB {b : Bool} {Φ : Bool → Vals → Led → Prop} (h : Φ b vals news) : AW c (truthy (.bool b)) vals news Φ := fun _ _ R => wpAny_truthy_bool ⟨_, _, R, h⟩

/-! expressions -/
theorem AW.bin {l r : Expr} {op : Operator} {pos : Pos} {Φ : Value → Vals → Led → Prop}
    (h : AW c (eval l c.env) vals news fun a v n => AW c (eval r c.env) v n fun b v n => AW c (binaryOp op a b) v n Φ) : AW c (eval (.BinOp l op r pos) c.env) vals news Φ :=
  fun g s R => wpAny_BinOp (AW.then h R fun _ _ _ _ r p => AW.then p r fun _ _ _ _ r p => p g _ r)
theorem AW.cmp {l r : Expr} {op : CmpOp} {pos : Pos} {Φ : Value → Vals → Led → Prop} (hm : behindInMarks op r = false)
    (h : AW c (eval l c.env) vals news fun a v n => AW c (eval r c.env) v n fun b v n => AW c (compareOp op a b) v n Φ) : AW c (eval (.Compare l [op] [r] pos) c.env) vals news Φ :=
  fun g s R => wpAny_Compare1 (AW.then h R fun _ _ _ _ r p => AW.then p r fun _ _ _ _ r p => p g _ r) hm
theorem AW.cInt {i : Int} {k : Nat} {pos : Pos} {Φ : Value → Vals → Led → Prop} (h : ∀ t, Φ (.int i t) vals news) : AW c (eval (.Constant (.int i) k pos) c.env) vals news Φ :=
  fun _ s R => wpAny_Constant_int ⟨_, _, R.tok _, h _⟩
theorem AW.cStr {x : Str} {k : Nat} {pos : Pos} {Φ : Value → Vals → Led → Prop} (h : ∀ t, Φ (.str x t) vals news) : AW c (eval (.Constant (.str x) k pos) c.env) vals news Φ :=
  fun _ s R => Constant_str ⟨_, _, R.tok _, h _⟩
theorem AW.cBool {b : Bool} {k : Nat} {pos : Pos} {Φ : Value → Vals → Led → Prop} (h : Φ (.bool b) vals news) : AW c (eval (.Constant (.bool b) k pos) c.env) vals news Φ :=
  fun _ _ R => wpAny_Constant_bool ⟨_, _, R, h⟩
theorem AW.ifExp {t b o : Expr} {pos : Pos} {Φ : Value → Vals → Led → Prop}
    (h : AW c (isTrue t c.env (eval t c.env)) vals news fun x v n => if x then AW c (eval b c.env) v n Φ else AW c (eval o c.env) v n Φ) : AW c (eval (.IfExp t b o pos) c.env) vals news Φ := by
  intro g s R
  refine wpAny_IfExp (AW.then h R fun b s' v n r p => ?_)
  cases b
  · exact p g _ r
  · exact p g _ r
theorem AW.assignName {x : Str} {pos : Pos} {a : Value} {Φ : Unit → Vals → Led → Prop} (h : AW c (storeName c.env x a) vals news Φ) : AW c (assign (.Name x pos) c.env a) vals news Φ :=
  fun g s R => wpAny_assign_Name (h g s R)
end
theorem ifT {A B : Prop} {b : Bool} (hb : b = true) (h : A) : if b = true then A else B := by rw [if_pos hb]; exact h
theorem ifN {A B : Prop} {b : Bool} (hb : ¬ b = true) (h : B) : if b = true then A else B := by rw [if_neg hb]; exact h
theorem ifD {A B p : Prop} [Decidable p] (hp : p) (h : A) : if decide p = true then A else B := ifT (decide_eq_true hp) h
theorem ifE {A B p : Prop} [Decidable p] (hp : ¬ p) (h : B) : if decide p = true then A else B := ifN (by rw [decide_eq_false hp]; exact Bool.false_ne_true) h
theorem ifND {A B p : Prop} [Decidable p] (hp : p) (h : B) : if (!decide p) = true then A else B := ifN (by rw [decide_eq_true hp]; exact Bool.false_ne_true) h
theorem ifNE {A B p : Prop} [Decidable p] (hp : ¬ p) (h : A) : if (!decide p) = true then A else B := ifT (by rw [decide_eq_false hp]; rfl) h

end Mine
end

section
namespace Mine
open PySem PySem.W PyProof.Rows PySem.Calls

section
variable {c : Cx} {g : Heap} {vals : Vals} {news : Led} {s : Shared}
/-- all but some addresses that are neither the frame's, nor the ledger's, nor the base's stand as they stood -/
theorem Rel.but (R : Rel c g vals news s) {wr : List Addr} (hL : c.env.locals ∉ wr) (hn : ∀ p ∈ news, p.1 ∉ wr) (hg : ∀ b ∈ wr, g.get? b = none) {h' : Heap} {tk : Nat}
    (e : ∀ b o, b ∉ wr → s.heap.get? b = some o → h'.get? b = some o) : Rel c g vals news { s with heap := h', toks := tk } where
  same := R.same' _ _
  base := R.base
  keep := fun b o q => e b o (fun m => by rw [hg b m] at q; cases q) (R.keep b o q)
  ns := R.ns.imp fun m x => ⟨x.1.at' fun o q => e _ _ hL q, x.2⟩
  led := fun p hp => (R.led p hp).imp fun o q => ⟨e _ _ (hn p hp) q.1, q.2⟩
  apart := R.apart
  fresh := R.fresh
  frame := R.frame' fun o q => e _ _ hL q
theorem Rel.rebase (R : Rel c g vals news s) (hro : c.ro = false) : ∃ g', Ext g g' ∧ Rel c g' vals news s ∧ ∀ b o, s.heap.get? b = some o → b ∉ c.env.locals :: news.map (·.1) → g'.get? b = some o := by
  have f := R.frame
  rw [hro, if_neg Bool.false_ne_true] at f
  have out : ∀ b o, g.get? b = some o → b ∉ c.env.locals :: news.map (·.1) := fun b o q m => by
    rcases List.mem_cons.mp m with rfl | m
    · rw [f] at q; cases q
    · obtain ⟨p, hp, rfl⟩ := List.mem_map.mp m
      rw [R.fresh p hp] at q; cases q
  refine ⟨hideAll s.heap (c.env.locals :: news.map (·.1)), fun b o q => hideAll_get _ (R.keep b o q) (out b o q), ?_, fun b o q m => hideAll_get _ q m⟩
  exact ⟨R.same, R.base.trans fun b o q => hideAll_get _ (R.keep b o q) (out b o q), fun b o q => of_hideAll _ q, R.ns, R.led, R.apart,
    fun p hp => hideAll_none _ (List.mem_cons_of_mem _ (List.mem_map_of_mem hp)), by rw [hro, if_neg Bool.false_ne_true]; exact hideAll_none _ List.mem_cons_self⟩
theorem Rel.unbase {g' : Heap} (R : Rel c g' vals news s) (hro : c.ro = false) (e : Ext g g') (hb : Ext c.h₀ g) : Rel c g vals news s := by
  have none_of : ∀ a, g'.get? a = none → g.get? a = none := fun a q => by
    cases z : g.get? a with
    | none => rfl
    | some o => have := e a o z; rw [q] at this; cases this
  have f := R.frame
  rw [hro, if_neg Bool.false_ne_true] at f
  exact ⟨R.same, hb, e.trans R.keep, R.ns, R.led, R.apart, fun p hp => none_of _ (R.fresh p hp), by rw [hro, if_neg Bool.false_ne_true]; exact none_of _ f⟩
end

structure WalkOn (c : Cx) (target : Expr) (I : Addr) (wr : List Addr) (src : Led) (n : Nat) (P : Nat → Value → Led → Prop) (It : Nat → Heap → Prop) (Mid : Nat → Value → Heap → Prop) : Prop where
  alive : ∀ i h, It i h → ∀ b ∈ wr, ∃ o, h.get? b = some o
  aliveM : ∀ i v h, Mid i v h → ∀ b ∈ wr, ∃ o, h.get? b = some o
  frame : ∀ i h h', It i h → (∀ b ∈ wr, ∀ o, h.get? b = some o → h'.get? b = some o) → It i h'
  item : ∀ (A : Around) i (s : Shared) (Q : Option Value → Shared → Prop) (E : Value → Shared → Prop), A.handled = none → i < n → It i s.heap → (∀ p ∈ src, Has c.w s.heap p) →
    (∀ v tl h' tk, P i v tl → (tl.map (·.1)).Nodup → (∀ p ∈ tl, Has c.w h' p ∧ s.heap.get? p.1 = none) → Mid (i + 1) v h' → (∀ b o, b ∉ wr → s.heap.get? b = some o → h'.get? b = some o) → Q (some v) { s with heap := h', toks := tk }) → wpAny (MD c.w) A (pyNext (.ref I)) Q E s
  lg : ∀ (A : Around) i v (s : Shared) (Q : Unit → Shared → Prop) (E : Value → Shared → Prop), Mid i v s.heap → (∀ h', It i h' → (∀ b o, b ∉ wr → s.heap.get? b = some o → h'.get? b = some o) → Q () { s with heap := h' }) → wpAny (MD c.w) A (letOwnedTupleGo target (.ref I) v) Q E s
  done : ∀ (A : Around) (s : Shared) (Q : Option Value → Shared → Prop) (E : Value → Shared → Prop), A.handled = none → It n s.heap → (∀ p ∈ src, Has c.w s.heap p) →
    (∀ h' tk, (∀ b o, b ∉ wr → s.heap.get? b = some o → h'.get? b = some o) → Q none { s with heap := h', toks := tk }) → wpAny (MD c.w) A (pyNext (.ref I)) Q E s

noncomputable def Starts (c : Cx) (target : Expr) (xv : Value) (src : Led) (n : Nat) (P : Nat → Value → Led → Prop) : Prop :=
  ∀ (A : Around) (s : Shared) (Q : Value → Shared → Prop) (E : Value → Shared → Prop), A.handled = none → (∀ p ∈ src, Has c.w s.heap p) →
    (∀ I wr It Mid h' tk, Ext s.heap h' → (∀ b ∈ wr, s.heap.get? b = none) → It 0 h' → WalkOn c target I wr src n P It Mid → Q (.ref I) { s with heap := h', toks := tk }) → wpAny (MD c.w) A (pyIter xv) Q E s

noncomputable def SelfOn (c : Cx) (I : Addr) (src : Led) (It : Nat → Heap → Prop) : Prop :=
  ∀ (A : Around) i (s : Shared) (Q : Value → Shared → Prop) (E : Value → Shared → Prop), It i s.heap → (∀ p ∈ src, Has c.w s.heap p) → Q (.ref I) s → wpAny (MD c.w) A (pyIter (.ref I)) Q E s
/-- a walk that a comprehension may begin twice -/
noncomputable def StartsS (c : Cx) (target : Expr) (xv : Value) (src : Led) (n : Nat) (P : Nat → Value → Led → Prop) : Prop :=
  ∀ (A : Around) (s : Shared) (Q : Value → Shared → Prop) (E : Value → Shared → Prop), A.handled = none → (∀ p ∈ src, Has c.w s.heap p) →
    (∀ I It Mid h' tk, Ext s.heap h' → s.heap.get? I = none → (∃ o, h'.get? I = some o) → It 0 h' → WalkOn c target I [I] src n P It Mid → SelfOn c I src It → Q (.ref I) { s with heap := h', toks := tk }) → wpAny (MD c.w) A (pyIter xv) Q E s

/-- what an address that does not stand yet is not -/
theorem Rel.off {c : Cx} {g : Heap} {vals : Vals} {news : Led} {s : Shared} (R : Rel c g vals news s) {b : Addr} (hb : s.heap.get? b = none) : b ∉ c.env.locals :: news.map (·.1) ∧ g.get? b = none := by
  refine ⟨fun m => ?_, ?_⟩
  · obtain ⟨o, ho⟩ := R.lives _ m
    rw [hb] at ho; cases ho
  · cases q : g.get? b with
    | none => rfl
    | some o => have := R.keep _ _ q; rw [hb] at this; cases this
theorem Rel.addNew {c : Cx} {g : Heap} {vals : Vals} {news : Led} {s : Shared} (R : Rel c g vals news s) {h : Heap} {tk : Nat} (R' : Rel c g vals news { s with heap := h, toks := tk }) {tl : Led} (nd : (tl.map (·.1)).Nodup) (ht : ∀ p ∈ tl, Has c.w h p ∧ s.heap.get? p.1 = none) :
    Rel c g vals (tl ++ news) { s with heap := h, toks := tk } :=
  R'.add nd fun p hp => ⟨(ht p hp).1, (R.off (ht p hp).2).1, (R.off (ht p hp).2).2⟩
theorem Rel.offs {c : Cx} {g : Heap} {vals : Vals} {news : Led} {s : Shared} (R : Rel c g vals news s) {wr : List Addr} (hw : ∀ b ∈ wr, s.heap.get? b = none) : c.env.locals ∉ wr ∧ (∀ p ∈ news, p.1 ∉ wr) ∧ (∀ b ∈ wr, g.get? b = none) :=
  ⟨fun m => (R.off (hw _ m)).1 List.mem_cons_self, fun p hp m => (R.off (hw _ m)).1 (List.mem_cons_of_mem _ (List.mem_map_of_mem hp)), fun b m => (R.off (hw b m)).2⟩
/-- a turn of a loop: what stood as the item had been taken is the base of the turn -/
theorem WalkOn.turned {c : Cx} {target : Expr} {I : Addr} {wr : List Addr} {src : Led} {n : Nat} {P : Nat → Value → Led → Prop} {It : Nat → Heap → Prop} {Mid : Nat → Value → Heap → Prop} {g : Heap} {v₂ : Vals} {n₂ tl : Led} {s₂ : Shared} {i : Nat} {h₃ h₄ : Heap} {tk₃ : Nat} {C : Prop}
    (W : WalkOn c target I wr src n P It Mid) (hro : c.ro = false) (wL : c.env.locals ∉ wr) (wg : ∀ b ∈ wr, g.get? b = none) (R₃ : Rel c g v₂ n₂ s₂) (hIt : It i s₂.heap) (hw : ∀ p ∈ n₂, p.1 ∉ wr) (hnd : (tl.map (·.1)).Nodup) (htl : ∀ p ∈ tl, Has c.w h₃ p ∧ s₂.heap.get? p.1 = none)
    (hk₃ : ∀ b o, b ∉ wr → s₂.heap.get? b = some o → h₃.get? b = some o) (hIt₄ : It (i + 1) h₄) (hk₄ : ∀ b o, b ∉ wr → h₃.get? b = some o → h₄.get? b = some o)
    (k : ∀ g', Rel c g' v₂ (tl ++ n₂) { s₂ with heap := h₄, toks := tk₃ } → (∀ v₄ n₄ s₄, Rel c g' v₄ n₄ s₄ → Rel c g v₄ n₄ s₄ ∧ It (i + 1) s₄.heap ∧ ∀ p ∈ n₄, p.1 ∉ wr) → C) : C := by
  have hw' : ∀ p ∈ tl ++ n₂, p.1 ∉ wr := fun p hp m => (List.mem_append.mp hp).elim (fun q => by
    obtain ⟨o, ho⟩ := W.alive i _ hIt _ m
    rw [(htl p q).2] at ho; cases ho) fun q => hw p q m
  have R₆ : Rel c g v₂ (tl ++ n₂) { s₂ with heap := h₄, toks := tk₃ } := (R₃.addNew (R₃.but wL hw wg hk₃) hnd htl).but (s := { s₂ with heap := h₃, toks := tk₃ }) wL hw' wg hk₄
  obtain ⟨g', hg', R₇, hin⟩ := R₆.rebase hro
  have wbase : ∀ b ∈ wr, ∀ o, h₄.get? b = some o → g'.get? b = some o := fun b m o q => hin b o q fun z => by
    rcases List.mem_cons.mp z with rfl | z
    · exact wL m
    · obtain ⟨p, hp, rfl⟩ := List.mem_map.mp z
      exact hw' p hp m
  refine k g' R₇ fun v₄ n₄ s₄ R₉ => ⟨R₉.unbase hro hg' R₆.base, W.frame (i + 1) _ _ hIt₄ fun b m o q => R₉.keep _ _ (wbase b m o q), fun p hp m => ?_⟩
  obtain ⟨o, ho⟩ := W.alive (i + 1) _ hIt₄ _ m
  have := R₉.fresh p hp
  rw [wbase _ m o ho] at this; cases this
inductive LI (c : Cx) (g : Heap) (wr : List Addr) (It : Nat → Heap → Prop) (Inv : Nat → Vals → Led → Prop) (n : Nat) (k : Nat) (s : Shared) : Prop where
  | mk (i : Nat) (v : Vals) (news : Led) (hk : k = n + 1 - i) (hi : i ≤ n) (R : Rel c g v news s) (hIt : It i s.heap) (hI : Inv i v news) (hw : ∀ p ∈ news, p.1 ∉ wr)
theorem LI.next {c : Cx} {g : Heap} {wr : List Addr} {It : Nat → Heap → Prop} {Inv : Nat → Vals → Led → Prop} {n i : Nat} {v : Vals} {news : Led} {s : Shared} (hlt : i < n) (o : Rel c g v news s ∧ It (i + 1) s.heap ∧ ∀ p ∈ news, p.1 ∉ wr) (hI : Inv (i + 1) v news) : ∃ m, m < n + 1 - i ∧ LI c g wr It Inv n m s :=
  ⟨n + 1 - (i + 1), Nat.sub_lt_sub_left (Nat.lt_succ_of_lt hlt) (Nat.lt_succ_self i), i + 1, v, news, rfl, hlt, o.1, o.2.1, hI, o.2.2⟩
/-- the turns of a loop over what W walks -/
theorem AW.turns {c : Cx} {target : Expr} {body : List Stmt} {I : Addr} {wr : List Addr} {src : Led} {n : Nat} {P : Nat → Value → Led → Prop} {It : Nat → Heap → Prop} {Mid : Nat → Value → Heap → Prop} {g : Heap} {v₁ : Vals} {n₁ : Led} {s : Shared} {Inv : Nat → Vals → Led → Prop} {Φ : Flow → Vals → Led → Prop}
    (G : Ok c) (hro : c.ro = false) (W : WalkOn c target I wr src n P It Mid) (hIsrc : ∀ i v₂ n₂, Inv i v₂ n₂ → ∀ p ∈ src, HasL c n₂ p)
    (hturn : ∀ i v tl v₂ n₂, i < n → P i v tl → Inv i v₂ n₂ → AW c (assign target c.env v) v₂ (tl ++ n₂) fun _ v₃ n₃ => AW c (execs body c.env) v₃ n₃ (Turn (Inv (i + 1)) Φ)) (hdone : ∀ v₂ n₂, Inv n v₂ n₂ → Φ .next v₂ n₂)
    (R : Rel c g v₁ n₁ s) (hI0 : Inv 0 v₁ n₁) (hit : It 0 s.heap) (wL : c.env.locals ∉ wr) (wn : ∀ p ∈ n₁, p.1 ∉ wr) (wg : ∀ b ∈ wr, g.get? b = none) :
    codeAny (MD c.w) c.A (.forLoop target (.ref I) body [] c.env) (fun r s' => match r with | .ok f => ∃ v n', Rel c g v n' s' ∧ Φ f v n' | .error _ => False) s := by
  refine codeAny_forLoop_any (I := LI c g wr It Inv n) ?_ (n + 1) ⟨0, v₁, n₁, rfl, Nat.zero_le _, R, hit, hI0, wn⟩
  rintro k s₂ ⟨i, v₂, n₂, rfl, hi, R₃, hIt, hInv, hw⟩
  by_cases hlt : i < n
  · refine W.item c.A i s₂ _ _ G.han hlt hIt (fun p hp => R₃.has (hIsrc i v₂ n₂ hInv p hp)) fun v tl h₃ tk₃ hP hnd htl hMid hk₃ => ?_
    refine W.lg c.A (i + 1) v _ _ _ hMid fun h₄ hIt₄ hk₄ => ?_
    refine W.turned (tk₃ := tk₃) hro wL wg R₃ hIt hw hnd htl hk₃ hIt₄ hk₄ fun g' R₇ out => ?_
    refine AW.then (hturn i v tl v₂ n₂ hlt hP hInv) R₇ fun _ s₃ v₃ n₃ R₈ hb => AW.then hb R₈ fun f s₄ v₄ n₄ R₉ hf => ?_
    have o := out v₄ n₄ s₄ R₉
    cases f
    · exact LI.next hlt o hf
    · exact ⟨v₄, n₄, o.1, hf⟩
    · exact LI.next hlt o hf
    · exact ⟨v₄, n₄, o.1, hf⟩
  · have hin : i = n := Nat.le_antisymm hi (Nat.not_lt.mp hlt)
    subst hin
    refine W.done c.A s₂ _ _ G.han hIt (fun p hp => R₃.has (hIsrc i v₂ n₂ hInv p hp)) fun h₃ tk₃ hk₃ => ?_
    exact wpAny_execs_nil ⟨v₂, n₂, R₃.but wL hw wg hk₃, hdone v₂ n₂ hInv⟩
/-- a loop whose items make no new objects -/
inductive Loop (c : Cx) (target : Expr) (body : List Stmt) (Φ : Flow → Vals → Led → Prop) (xv : Value) (v₁ : Vals) (n₁ : Led) : Prop where
  | mk (src : Led) (n : Nat) (P : Nat → Value → Prop) (Inv : Nat → Vals → Led → Prop) (st : Starts c target xv src n (fun i v tl => P i v ∧ tl = [])) (has : ∀ p ∈ src, HasL c n₁ p) (zero : Inv 0 v₁ n₁) (keep : ∀ i v₂ n₂, Inv i v₂ n₂ → ∀ p ∈ src, HasL c n₂ p)
  (turn : ∀ i (Ψ : Flow → Vals → Led → Prop), (∀ f v n, Turn (Inv (i + 1)) Φ f v n → Ψ f v n) → ∀ v v₂ n₂, i < n → P i v → Inv i v₂ n₂ → AW c (assign target c.env v) v₂ n₂ fun _ v₃ n₃ => AW c (execs body c.env) v₃ n₃ Ψ)
  (done : ∀ v₂ n₂, Inv n v₂ n₂ → Φ .next v₂ n₂)
theorem AW.for0 {c : Cx} {vals : Vals} {news : Led} {target iter : Expr} {body : List Stmt} {pos : Pos} {Φ : Flow → Vals → Led → Prop} (G : Ok c) (hro : c.ro = false) (hf : ∀ x, foldedSetIterable iter c.env x = Pure.pure x)
    (h : AW c (eval iter c.env) vals news (Loop c target body Φ)) : AW c (exec (.For target iter body [] pos) c.env) vals news Φ := by
  intro g s R
  refine wpAny_For (AW.then h R fun xv s₁ v₁ n₁ R₁ l => ?_) hf
  obtain ⟨src, n, P, Inv, hst, hsrc, hI0, hIsrc, hturn, hdone⟩ := l
  refine hst c.A s₁ _ _ G.han (fun p hp => R₁.has (hsrc p hp)) fun I wr It Mid h' tk hext hnew hit W => ?_
  have w := R₁.offs hnew
  refine codeAny_mono (AW.turns G hro W hIsrc (fun i v tl v₂ n₂ hi hp hI => ?_) hdone (R₁.grow hext) hI0 hit w.1 w.2.1 w.2.2) fun r s' q => ?_
  · obtain ⟨hp, rfl⟩ := hp
    exact hturn i _ (fun _ _ _ q => q) v v₂ n₂ hi hp hI
  · cases r with
    | ok f => exact q
    | error e => exact q.elim
theorem AW.while_ {c : Cx} {vals : Vals} {news : Led} {test : Expr} {body : List Stmt} {pos : Pos} {Φ : Flow → Vals → Led → Prop} (Inv : Nat → Vals → Led → Prop) {k₀ : Nat} (h0 : Inv k₀ vals news)
    (turn : ∀ k v n, Inv k v n → AW c (isTrue test c.env (eval test c.env)) v n fun b v₁ n₁ => if b then AW c (execs body c.env) v₁ n₁ (Turn (fun v n => ∃ k', k' < k ∧ Inv k' v n) Φ)
      else Φ .next v₁ n₁) : AW c (exec (.While test body [] pos) c.env) vals news Φ := by
  intro g s R
  refine wpAny_While (codeAny_whileLoop (I := fun k s' => ∃ v n, Rel c g v n s' ∧ Inv k v n) ?_ k₀ ⟨vals, news, R, h0⟩)
  rintro k s₁ ⟨v, n, R₁, hI⟩
  refine AW.then (turn k v n hI) R₁ fun b s₂ v₁ n₁ R₂ hb => ?_
  cases b with
  | false => exact wpAny_execs_nil ⟨v₁, n₁, R₂, hb⟩
  | true =>
    refine AW.then hb R₂ fun f s₃ v₂ n₂ R₃ hf => ?_
    have e : (∃ k', k' < k ∧ Inv k' v₂ n₂) → ∃ m, m < k ∧ ∃ v n, Rel c g v n s₃ ∧ Inv m v n := fun ⟨k', hk, hI'⟩ => ⟨k', hk, v₂, n₂, R₃, hI'⟩
    cases f
    · exact e hf
    · exact ⟨v₂, n₂, R₃, hf⟩
    · exact e hf
    · exact ⟨v₂, n₂, R₃, hf⟩

theorem lg_name {w : World} {A : Around} {x : Str} {pos : Pos} {it v : Value} {s : Shared} {Q : Unit → Shared → Prop} {E : Value → Shared → Prop} (h : Q () s) : wpAny (MD w) A (letOwnedTupleGo (.Name x pos) it v) Q E s := by
  exact wpAny_pure h

/-- a library's walk that stands on its own iterator alone -/
theorem WalkOn.ofWalks {c : Cx} {x : Str} {pos : Pos} {I : Addr} {n : Nat} {P : Nat → Value → Prop} {St : Nat → Heap → Prop} (hal : ∀ i h, St i h → ∃ o, h.get? I = some o)
    (W : ∀ A : Around, A.handled = none → Walks PySem.Challenge.rw_wj0025_01.row.prog c.w A I [I] [I] n P St) (hd : ∃ A : Around, A.handled = none) : WalkOn c (.Name x pos) I [I] [] n (fun i v tl => P i v ∧ tl = []) St (fun i _ h => St i h) where
  alive := fun i h st b hb => by rw [List.mem_singleton.mp hb]; exact hal i h st
  aliveM := fun i v h st b hb => by rw [List.mem_singleton.mp hb]; exact hal i h st
  frame := fun i h h' st hk => by obtain ⟨A, hA⟩ := hd; exact (W A hA).frame i h h' st hk
  item := fun A i s Q E hA hi st _ hQ => (W A hA).item i s Q E hi st fun v h' tk hP st' hk => hQ v [] h' tk ⟨hP, rfl⟩ (by simp) (by intro p hp; cases hp) st' hk
  lg := fun A i v s Q E st hQ => lg_name (hQ s.heap st fun _ _ _ e => e)
  done := fun A s Q E hA st _ hQ => (W A hA).done s Q E st hQ

theorem starts_str {c : Cx} {x : Str} {pos : Pos} {y : Str} {t : Tok} : Starts c (.Name x pos) (.str y t) [] y.cps.size (fun i v tl => SignAt y i v ∧ tl = []) := by
  intro A s Q E hA _ hQ
  have new : ∀ b ∈ [s.heap.objs.size], s.heap.get? b = none := fun b hb => by rw [List.mem_singleton.mp hb]; exact get_none_of_size _ _ (Nat.le_refl _)
  cases ha : y.cps.all (· < 128)
  · refine wpAny_pyIter_wide ha (hQ _ [s.heap.objs.size] _ _ _ s.toks (Ext.push _ _) new ?_ (WalkOn.ofWalks (P := SignAt y) (St := fun i h => h.IsStrIter s.heap.objs.size "str_iterator" y t i) (fun i h st => let ⟨o, ho, _⟩ := st; ⟨o, ho⟩) (fun A' hA' => Walks.strWide hA' _ y t) ⟨A, hA⟩))
    exact ⟨_, Heap.get?_push_size _ rfl, rfl, rfl⟩
  · refine wpAny_pyIter_ascii ha (hQ _ [s.heap.objs.size] _ _ _ s.toks (Ext.push _ _) new ?_ (WalkOn.ofWalks (P := SignAt y) (St := fun i h => h.IsStrIter s.heap.objs.size "str_ascii_iterator" y t i) (fun i h st => let ⟨o, ho, _⟩ := st; ⟨o, ho⟩) (fun A' hA' => Walks.strAscii hA' _ y t) ⟨A, hA⟩))
    exact ⟨_, Heap.get?_push_size _ rfl, rfl, rfl⟩

theorem StartsS.starts {c : Cx} {target : Expr} {xv : Value} {src : Led} {n : Nat} {P : Nat → Value → Led → Prop} (S : StartsS c target xv src n P) : Starts c target xv src n P :=
  fun A s Q E hA hs hQ => S A s Q E hA hs fun I It Mid h' tk e n1 _ i0 W _ => hQ I [I] It Mid h' tk e (fun b hb => by rw [List.mem_singleton.mp hb]; exact n1) i0 W
theorem startsS_listT {c : Cx} {target : Expr} {a : Addr} {its : List Value} (ht : ∀ (A : Around) (i I : Addr) (v : Value) (s : Shared) (Q : Unit → Shared → Prop) (E : Value → Shared → Prop), s.heap.IsListIter I a i → v ∈ its → Q () s → wpAny (MD c.w) A (letOwnedTupleGo target (.ref I) v) Q E s) :
    StartsS c target (.ref a) [(a, .list its)] its.length (fun i v tl => its[i]? = some v ∧ tl = []) := by
  intro A s Q E hA hsrc hQ
  obtain ⟨o, ho, ⟨n, hm⟩, _⟩ := hsrc (a, .list its) (by simp)
  have lst : ∀ s' : Shared, (∀ p ∈ [(a, MO.list its)], Has c.w s'.heap p) → s'.heap.IsList a its.toArray := fun s' h => by
    obtain ⟨o, ho, ⟨n, hm⟩, _⟩ := h (a, .list its) (by simp)
    exact ⟨o, ho, by rw [hm], n, by rw [hm]⟩
  have hne : a ≠ s.heap.objs.size := Nat.ne_of_lt (Heap.lt_size ho)
  refine wpAny_pyIter_list (lst s hsrc) (hQ _ (fun i h => h.IsListIter s.heap.objs.size a i) (fun i v h => h.IsListIter s.heap.objs.size a i ∧ v ∈ its) _ s.toks (Ext.push _ _)
    (get_none_of_size _ _ (Nat.le_refl _)) ⟨_, Heap.get?_push_size _ rfl⟩ ⟨_, Heap.get?_push_size _ rfl, rfl, rfl⟩ ?_ ?_)
  · constructor
    · intro i h st b hb
      rw [List.mem_singleton.mp hb]; obtain ⟨o, ho, _⟩ := st; exact ⟨o, ho⟩
    · intro i v h st b hb
      rw [List.mem_singleton.mp hb]; obtain ⟨⟨o, ho, _⟩, _⟩ := st; exact ⟨o, ho⟩
    · intro i h h' st hk
      obtain ⟨o, ho, r⟩ := st
      exact ⟨o, hk _ (by simp) _ ho, r⟩
    · intro A' i s' Q' E' hA' hi st hs' hq
      refine wpAny_pyNext_list_item st (lst s' hs') (x := its[i]) (by simp [hi]) fun h' hit' hb' => ?_
      refine hq its[i] [] h' s'.toks ⟨by simp [hi], rfl⟩ (by simp) (by intro p hp; cases hp) ⟨hit', List.getElem_mem hi⟩ fun b o hb e => hb'.extBut b o (fun z => hb (by simp [z])) e
    · rintro A' i v s' Q' E' ⟨st, hv⟩ hq
      exact ht A' i _ v s' Q' E' st hv (hq s'.heap st fun _ _ _ e => e)
    · intro A' s' Q' E' hA' st hs' hq
      refine wpAny_pyNext_list_end hA' st (lst s' hs') (by simp) fun h' he' => hq h' s'.toks fun b o hb e => he' b o (fun z => hb (by simp [z])) e
  · intro A' i s' Q' E' st hs' hq
    exact wpAny_pyIter_listiter st hq
theorem startsS_list {c : Cx} {x : Str} {pos : Pos} {a : Addr} {its : List Value} : StartsS c (.Name x pos) (.ref a) [(a, .list its)] its.length (fun i v tl => its[i]? = some v ∧ tl = []) :=
  startsS_listT fun _ _ _ _ _ _ _ _ _ q => lg_name q
theorem starts_list {c : Cx} {x : Str} {pos : Pos} {a : Addr} {its : List Value} : Starts c (.Name x pos) (.ref a) [(a, .list its)] its.length (fun i v tl => its[i]? = some v ∧ tl = []) := startsS_list.starts
theorem starts_listT {c : Cx} {es : List Expr} {k : Nat} {pos : Pos} {a : Addr} {its : List Value} (hr : ∀ v ∈ its, ∃ b, v = Value.ref b) : Starts c (.Tuple es k pos) (.ref a) [(a, .list its)] its.length (fun i v tl => its[i]? = some v ∧ tl = []) :=
  (startsS_listT fun _ _ _ _ _ _ _ st hv q => by
    obtain ⟨b, rfl⟩ := hr _ hv
    exact wpAny_letOwnedTupleGo_listiter st q).starts

theorem starts_tuple {c : Cx} {x : Str} {pos : Pos} {a : Addr} {its : List Value} : Starts c (.Name x pos) (.ref a) [(a, .tup its)] its.length (fun i v tl => its[i]? = some v ∧ tl = []) := by
  intro A s Q E hA hsrc hQ
  obtain ⟨o, ho, ⟨n, hm⟩, _⟩ := hsrc (a, .tup its) (by simp)
  have hne : a ≠ s.heap.objs.size := Nat.ne_of_lt (Heap.lt_size ho)
  have lst : ∀ s' : Shared, (∀ p ∈ [(a, MO.tup its)], Has c.w s'.heap p) → s'.heap.IsTuple a its.toArray := fun s' h => by
    obtain ⟨o, ho, ⟨n, hm⟩, _⟩ := h (a, .tup its) (by simp)
    exact ⟨o, ho, by rw [hm], n, by rw [hm]⟩
  refine wpAny_pyIter_tuple (lst s hsrc) (hQ _ [s.heap.objs.size] (fun i h => h.IsTupleIter s.heap.objs.size a i) (fun i v h => h.IsTupleIter s.heap.objs.size a i) _ s.toks (Ext.push _ _)
    (fun b hb => by rw [List.mem_singleton.mp hb]; exact get_none_of_size _ _ (Nat.le_refl _)) ⟨_, Heap.get?_push_size _ rfl, rfl, rfl⟩ ?_)
  constructor
  · intro i h st b hb
    rw [List.mem_singleton.mp hb]; obtain ⟨o, ho, _⟩ := st; exact ⟨o, ho⟩
  · intro i v h st b hb
    rw [List.mem_singleton.mp hb]; obtain ⟨o, ho, _⟩ := st; exact ⟨o, ho⟩
  · intro i h h' st hk
    obtain ⟨o, ho, r⟩ := st
    exact ⟨o, hk _ (by simp) _ ho, r⟩
  · intro A' i s' Q' E' hA' hi st hs' hq
    refine wpAny_pyNext_tuple_item st (lst s' hs') (x := its[i]) (by simp [hi]) fun h' hit' hb' => ?_
    refine hq its[i] [] h' s'.toks ⟨by simp [hi], rfl⟩ (by simp) (by intro p hp; cases hp) hit' fun b o hb e => hb'.extBut b o (fun z => hb (by simp [z])) e
  · intro A' i v s' Q' E' st hq
    exact lg_name (hq s'.heap st fun _ _ _ e => e)
  · intro A' s' Q' E' hA' st hs' hq
    refine wpAny_pyNext_tuple_end hA' st (lst s' hs') (by simp) fun h' he' => hq h' s'.toks fun b o hb e => he' b o (fun z => hb (by simp [z])) e

/-- a range that stands in the ledger as it is -/
noncomputable abbrev rangeObj (a b k : Int) (t u v : Tok) : Obj := { cls := .type "range", data := .fields #[.int a t, .int b u, .int k v] }

end Mine
end

section
namespace Mine
open PySem PySem.W PyProof.Rows PySem.Calls

structure Room (A : Around) (k : Nat) : Prop where
  han : A.handled = none
  dep : A.depth + k < recursionLimit
  uni : A.units + 8 * k < cLine
theorem Room.less {A : Around} {k l : Nat} (r : Room A k) (h : l ≤ k) : Room A l := ⟨r.han, by have := r.dep; omega, by have := r.uni; omega⟩
theorem Room.deeper {A : Around} {k : Nat} (r : Room A (k + 1)) (env : Env) : Room (A.deeper env) k :=
  ⟨r.han, by have := r.dep; show A.depth + 1 + k < _; omega, by have := r.uni; show A.units + 3 + 8 * k < _; omega⟩

noncomputable def Spec (w : World) (k : Nat) (f : Value) (args : List Value) (need : Led) (R : Value → Led → Prop) : Prop :=
  ∀ (A : Around) (s : Shared), Room A k → TopOK w s.heap → (∀ p ∈ need, Has w s.heap p) →
    wpAny (MD w) A (call f args) (fun v s' => Keeps s s' ∧ ∃ tl, R v tl ∧ (tl.map (·.1)).Nodup ∧ ∀ p ∈ tl, Has w s'.heap p ∧ s.heap.get? p.1 = none) (fun _ _ => False) s

noncomputable abbrev fcx (w : World) (A : Around) (fd : FuncData) (L f : Addr) (s : Shared) (nm : List Str) : Cx := { w := w, A := A, env := callEnv fd L f, h₀ := s.heap, s₀ := s, nm := nm, ro := false }
noncomputable abbrev fcxC (w : World) (A : Around) (fd : FuncData) (L f : Addr) (s : Shared) (nm : List Str) : Cx := { w := w, A := A, env := callEnvC fd L f, h₀ := s.heap, s₀ := s, nm := nm, ro := false }

inductive InitV (binds : List (Str × Value)) : List Str → Vals → Prop where
  | nil : InitV binds [] []
  | no {x ns vs} : InitV binds ns vs → InitV binds (x :: ns) (none :: vs)
  | has {x v ns vs} : binds.reverse.lookup x = some v → InitV binds ns vs → InitV binds (x :: ns) (some v :: vs)
theorem InitV.get {binds : List (Str × Value)} {ns : List Str} {vs : Vals} (h : InitV binds ns vs) : ∀ (i : Nat) (x : Str) (v : Value), ns[i]? = some x → vs[i]? = some (some v) → binds.reverse.lookup x = some v := by
  induction h with
  | nil => intro i x v h1 _; simp at h1
  | no _ ih =>
    intro i x v h1 h2
    cases i with
    | zero => simp at h2
    | succ i => exact ih i x v (by simpa using h1) (by simpa using h2)
  | has e _ ih =>
    intro i x v h1 h2
    cases i with
    | zero => simp at h1 h2; rw [← h1, ← h2]; exact e
    | succ i => exact ih i x v (by simpa using h1) (by simpa using h2)

noncomputable def retOf : Flow → Value
  | .ret v => v
  | _ => .none

theorem keeps_of_rel {c : Cx} {g : Heap} {vals : Vals} {news : Led} {s : Shared} (R : Rel c g vals news s) (hs : c.s₀.heap = g) : Keeps c.s₀ s := by
  obtain ⟨h, tk, rfl⟩ := R.same
  exact ⟨h, tk, rfl, by rw [hs]; exact R.keep⟩

theorem spec_of {c : Cx} {vals : Vals} {news : Led} {s : Shared} {fl : Flow} {R : Value → Led → Prop} (R' : Rel c c.s₀.heap vals news s) (h : ∃ tl, tl.Sublist news ∧ R (retOf fl) tl) :
    Keeps c.s₀ s ∧ ∃ tl, R (retOf fl) tl ∧ (tl.map (·.1)).Nodup ∧ ∀ p ∈ tl, Has c.w s.heap p ∧ c.s₀.heap.get? p.1 = none :=
  ⟨keeps_of_rel R' rfl, Exists.elim h fun tl q => ⟨tl, q.2, (List.nodup_cons.mp R'.apart).2.sublist (q.1.map _), fun p hp => ⟨R'.led p (q.1.subset hp), R'.fresh p (q.1.subset hp)⟩⟩⟩

theorem enter {w : World} {k : Nat} {f : Addr} {oc : Value} {od : Option Addr} {fd : FuncData} {osl : Array (Option Value)} {body : List Stmt} {args : List Value} {binds : List (Str × Value)} {need : Led} {R : Value → Led → Prop}
    (nm : List Str) (vals₀ : Vals) (hl : (KF w.params).lookup f = some ⟨oc, od, .func fd, osl⟩) (hb : fd.body = .stmts body) (hc : codeIn (KF w.params) fd.code fd.qualname = true)
    (hbind : bindArgs fd ⟨args, []⟩ = Pure.pure binds) (hcell : ∀ x ∈ fd.scope.names, x.2 ≠ .cell) (hloc : ∀ x ∈ binds, fd.scope.names.lookup x.1 = some .local) (hco : fd.scope.isCoroutine = false) (hgen : fd.scope.isGenerator = false) (hk : fd.scope.kind = .function)
    (hglo : fd.globals = mainGlobals) (hblt : fd.builtins = builtinsNs) (hnd : nm.Nodup) (hv : InitV binds nm vals₀)
    (h : ∀ (A : Around) (L : Addr) (s : Shared), Ok (fcx w A fd L f s nm) → Room A k → (∀ p ∈ need, Has w s.heap p) → AW (fcx w A fd L f s nm) (execs body (fcx w A fd L f s nm).env) vals₀ [] fun fl v n => ∃ tl, tl.Sublist n ∧ R (retOf fl) tl) :
    Spec w (k + 1) (.ref f) args need R := by
  intro A s hr ht hn
  obtain ⟨mean, mg, mb, T⟩ := ht.t
  refine wpAny_call (codeAny_call_plain (fd := fd) (by have := hr.dep; omega) (ht.k _ _ hl) rfl T.nolimit (codeRec_of ht.k hc) hb hbind hcell hloc (fun h₀ hns hk₀ => ?_) hco hgen hk)
  have G : Ok (fcx w (A.deeper (callEnv fd s.heap.objs.size f)) fd s.heap.objs.size f s nm) := ⟨hr.han, ht, hglo, hblt, hk, hnd⟩
  have none_s : s.heap.get? s.heap.objs.size = none := get_none_of_size _ _ (Nat.le_refl _)
  have R₀ : Rel (fcx w (A.deeper (callEnv fd s.heap.objs.size f)) fd s.heap.objs.size f s nm) s.heap vals₀ [] { s with heap := h₀, toks := s.toks + binds.length } :=
    ⟨⟨h₀, _, rfl⟩, Ext.refl _, hk₀, ⟨_, hns, hv.get, fun _ _ _ e => nomatch e⟩, (by intro p hp; cases hp), by simp, (by intro p hp; cases hp), by show if false = true then _ else _; rw [if_neg Bool.false_ne_true]; exact none_s⟩
  refine AW.then (h _ _ _ G (hr.deeper _) hn) R₀ fun fl s' v n R' hq => ?_
  have fin := spec_of R' hq
  cases fl <;> exact fin

theorem enterC {w : World} {k : Nat} {f : Addr} {oc : Value} {od : Option Addr} {fd : FuncData} {osl : Array (Option Value)} {body : List Stmt} {args : List Value} {binds : List (Str × Value)} {need : Led} {R : Value → Led → Prop}
    (nm : List Str) (vals₀ : Vals) (cs : Addr → Led) (hl : (KF w.params).lookup f = some ⟨oc, od, .func fd, osl⟩) (hb : fd.body = .stmts body) (hc : codeIn (KF w.params) fd.code fd.qualname = true)
    (hbind : bindArgs fd ⟨args, []⟩ = Pure.pure binds) (hclo : fd.closure = [])
    (hkind : ∀ n, ∀ x ∈ binds, fd.scope.names.lookup x.1 = some .local ∨ (fd.scope.names.lookup x.1 = some .cell ∧ ((cellsFrom n fd.scope.names []).lookup x.1).isSome = true))
    (hco : fd.scope.isCoroutine = false) (hgen : fd.scope.isGenerator = false) (hk : fd.scope.kind = .function)
    (hglo : fd.globals = mainGlobals) (hblt : fd.builtins = builtinsNs) (hnd : nm.Nodup)
    (hv : ∀ (L : Addr) (i : Nat) (x : Str) (v : Value), nm[i]? = some x → vals₀[i]? = some (some v) → bindL (callEnvC fd L f).kindOf binds (fun _ => none) x = some v)
    (hcs : ∀ L, ((cs L).map (·.1)).Nodup ∧ ∀ p ∈ cs L, ∃ n v, (cellsFrom (L + 1) fd.scope.names []).lookup n = some p.1 ∧ p.2 = .cell v ∧ bindC (callEnvC fd L f).kindOf binds (fun _ => none) n = v)
    (h : ∀ (A : Around) (L : Addr) (s : Shared), Ok (fcxC w A fd L f s nm) → Room A k → (∀ p ∈ need, Has w s.heap p) → AW (fcxC w A fd L f s nm) (execs body (fcxC w A fd L f s nm).env) vals₀ (cs L) fun fl v n => ∃ tl, tl.Sublist n ∧ R (retOf fl) tl) :
    Spec w (k + 1) (.ref f) args need R := by
  intro A s hr ht hn
  obtain ⟨mean, mg, mb, T⟩ := ht.t
  refine wpAny_call (codeAny_call_cells (fd := fd) (by have := hr.dep; omega) (ht.k _ _ hl) rfl T.nolimit (codeRec_of ht.k hc) hb hbind hclo (hkind _) (fun s₁ x => ?_) hco hgen hk)
  have G : Ok (fcxC w (A.deeper (callEnvC fd s.heap.objs.size f)) fd s.heap.objs.size f s nm) := ⟨hr.han, ht, hglo, hblt, hk, hnd⟩
  have none_of : ∀ a, s.heap.objs.size ≤ a → s.heap.get? a = none := fun a ha => get_none_of_size _ _ ha
  have mem : ∀ p ∈ cs s.heap.objs.size, Has w s₁.heap p ∧ s.heap.objs.size < p.1 := fun p hp => by
    obtain ⟨n, v, e1, e2, e3⟩ := (hcs s.heap.objs.size).2 p hp
    obtain ⟨o, ho, hd⟩ := x.cell n p.1 e1
    refine ⟨⟨o, ho, ?_, ?_⟩, x.above n p.1 ?_⟩
    · rw [e2]; show o.data = .cell v; rw [hd]; exact congrArg _ e3
    · have h1 := x.above n p.1 (PySem.mem_of_lookup e1)
      have h2 : sysModules < mainGlobals := by decide
      exact MO.low_of (beq_eq_false_iff_ne.mpr (Nat.ne_of_gt (Nat.lt_trans h2 (Nat.lt_trans T.g.lt h1))))
    · exact PySem.mem_of_lookup e1
  have R₀ : Rel (fcxC w (A.deeper (callEnvC fd s.heap.objs.size f)) fd s.heap.objs.size f s nm) s.heap vals₀ (cs s.heap.objs.size) s₁ := by
    refine ⟨x.toInCall.same, Ext.refl _, x.toInCall.keep, ⟨_, x.toInCall.ns, hv _, fun _ _ _ e => nomatch e⟩, fun p hp => (mem p hp).1, ?_, fun p hp => none_of _ (Nat.le_of_lt (mem p hp).2), ?_⟩
    · refine List.nodup_cons.mpr ⟨fun q => ?_, (hcs _).1⟩
      obtain ⟨p, hp, e⟩ := List.mem_map.mp q
      have h1 := (mem p hp).2
      rw [e] at h1; exact Nat.lt_irrefl _ h1
    · show if false = true then _ else _
      rw [if_neg Bool.false_ne_true]; exact none_of _ (Nat.le_refl _)
  refine AW.then (h _ _ _ G (hr.deeper _) hn) R₀ fun fl s' v n R' hq => ?_
  have fin := spec_of R' hq
  cases fl <;> exact fin

section
variable {c : Cx} {vals : Vals} {news : Led}
theorem AW.callS {k : Nat} {f : Value} {args : List Value} {need : Led} {R : Value → Led → Prop} {Φ : Value → Vals → Led → Prop} (S : Spec c.w k f args need R) (hr : Room c.A k) (G : Ok c) (hn : ∀ p ∈ need, HasL c news p)
    (h : ∀ v tl, R v tl → Φ v vals (tl ++ news)) : AW c (call f args) vals news Φ :=
  AW.of_keeps (R := R) (fun g s r => S c.A s hr (G.top.ext (r.base.trans r.keep)) fun p hp => r.has (hn p hp)) h

/-- a value of a form, and no objects -/
inductive OneR (f : Tok → Value) : Value → Led → Prop where
  | mk (t : Tok) : OneR f (f t) []
theorem oneR {f : Tok → Value} {v : Value} {n : Led} (h : ∃ t, v = f t) : ∃ tl : Led, tl.Sublist n ∧ OneR f v tl := Exists.elim h fun t e => ⟨[], List.nil_sublist _, by rw [e]; exact ⟨t⟩⟩
theorem AW.callO {k : Nat} {f : Value} {args : List Value} {need : Led} {φ : Tok → Value} {Φ : Value → Vals → Led → Prop} (S : Spec c.w k f args need (OneR φ)) (hr : Room c.A k) (G : Ok c) (hn : ∀ p ∈ need, HasL c news p)
    (h : ∀ t, Φ (φ t) vals news) : AW c (call f args) vals news Φ := AW.callS S hr G hn fun _ _ q => by
  cases q; exact h _
theorem AW.spl0 {Φ : List Value → Vals → Led → Prop} (h : Φ [] vals news) : AW c (spliced []) vals news Φ := fun _ _ R => spliced_nil ⟨_, _, R, h⟩
theorem AW.spl1 {x : Sem Value} {rest : List (Bool × Sem Value)} {Φ : List Value → Vals → Led → Prop} (h : AW c x vals news fun a v n => AW c (spliced rest) v n fun as => Φ (a :: as)) : AW c (spliced ((false, x) :: rest)) vals news Φ :=
  fun g s R => spliced_cons (AW.then h R fun _ _ _ _ r p => p g _ r)

/-- a call by a name: a def of the text's, or a class of it -/
theorem AW.callF {x : Str} {p pos : Pos} {args : List Expr} {t : Sem Value} {ts : List (Bool × Sem Value)} {f : Value} {Φ : Value → Vals → Led → Prop} (G : Ok c) (ht : backTo pos (starEach args c.env) = (false, t) :: ts) (hplain : ts.any (·.1) = false)
    (hf : AW c (eval (.Name x p) c.env) vals news fun a v n => a = f ∧ v = vals ∧ n = news) (hk : keepIn (KF c.w.params) f = true)
    (h : AW c (spliced ((false, t) :: ts)) vals news fun as v n => AW c (call f as) v n Φ) : AW c (eval (.Call (.Name x p) args [] pos) c.env) vals news Φ := by
  intro g s R
  refine Call_Name ht (wpAny_mono (hf g s R) (fun a s₁ ⟨v, n, R₁, e1, e2, e3⟩ => ?_) fun _ _ e => e)
  subst e1 e2 e3
  refine callWith_of (P := fun h => (KF c.w.params).In h) (by simp [hplain]) (fun h X => keeps_K hk h X) (evalArgs_plain ?_)
  exact AW.then h R₁ fun as s₂ v n R₂ q => ⟨(G.top.ext (R₂.base.trans R₂.keep)).k, q g _ R₂⟩
theorem AW.callB {x : Str} {p pos : Pos} {args : List Expr} {t : Sem Value} {ts : List (Bool × Sem Value)} {id : String} {Φ : Value → Vals → Led → Prop} (ht : backTo pos (starEach args c.env) = (false, t) :: ts) (hplain : ts.any (·.1) = false)
    (hf : AW c (eval (.Name x p) c.env) vals news fun a v n => a = .builtin id ∧ v = vals ∧ n = news)
    (h : AW c (spliced ((false, t) :: ts)) vals news fun as v n => AW c (call (.builtin id) as) v n Φ) : AW c (eval (.Call (.Name x p) args [] pos) c.env) vals news Φ := by
  intro g s R
  refine Call_Name ht (wpAny_mono (hf g s R) (fun a s₁ ⟨v, n, R₁, e1, e2, e3⟩ => ?_) fun _ _ e => e)
  subst e1 e2 e3
  refine Calls.callWith_builtin (by simp [hplain]) (evalArgs_plain ?_)
  exact AW.then h R₁ fun as s₂ v n R₂ q => q g _ R₂
theorem AW.callT {x : Str} {p pos : Pos} {args : List Expr} {t : Sem Value} {ts : List (Bool × Sem Value)} {T : String} {Φ : Value → Vals → Led → Prop} (ht : backTo pos (starEach args c.env) = (false, t) :: ts) (hplain : ts.any (·.1) = false)
    (hf : AW c (eval (.Name x p) c.env) vals news fun a v n => a = .type T ∧ v = vals ∧ n = news)
    (h : AW c (spliced ((false, t) :: ts)) vals news fun as v n => AW c (call (.type T) as) v n Φ) : AW c (eval (.Call (.Name x p) args [] pos) c.env) vals news Φ := by
  intro g s R
  refine Call_Name ht (wpAny_mono (hf g s R) (fun a s₁ ⟨v, n, R₁, e1, e2, e3⟩ => ?_) fun _ _ e => e)
  subst e1 e2 e3
  refine PyProof.Rows.callWith_type (by simp [hplain]) (evalArgs_plain ?_)
  exact AW.then h R₁ fun as s₂ v n R₂ q => q g _ R₂
/-- a method of a built-in type, called on the spot -/
theorem AW.callM {o : Expr} {name : Str} {apos pos : Pos} {args : List Expr} {t : Sem Value} {ts : List (Bool × Sem Value)} {T id : String} {Φ : Value → Vals → Led → Prop}
    (hbase : attributeBase o name c.env (eval o c.env) = eval o c.env)
    (hfew : ((backTo pos (starEach args c.env)).all (fun x => !x.1) && (backToKw pos (keywordEach [] c.env)).all (fun x => x.1.isSome)
      && decide (args.length + ([] : List Keyword).length + (if ([] : List Keyword).isEmpty then 0 else 1) < 30)) = true)
    (hline : (apos.endLine == pos.line) = true) (ht : backTo pos (starEach args c.env) = (false, t) :: ts) (hplain : ts.any (·.1) = false)
    (pa : PlainAttrs T) (slot : Slot T name id) (hty : typeOf (Value.builtin id) = Pure.pure (Value.type "method_descriptor"))
    (h : AW c (eval o c.env) vals news fun ov v n => (∀ s : Shared, (∀ p ∈ n, Has c.w s.heap p) → Ext c.h₀ s.heap → s.TypeIs ov T ∧ (∀ a, ov = .ref a → ∃ ob, s.heap.get? a = some ob ∧ ob.dict = none)) ∧
      AW c (spliced ((false, t) :: ts)) v n fun as v n => AW c (call (.builtin id) (ov :: as)) v n Φ) : AW c (eval (.Call (.Attribute o name apos) args [] pos) c.env) vals news Φ := by
  intro g s R
  refine wpAny_Call_method_late hbase hfew hline ht (wpAny_mono (h g s R) (fun ov s₁ ⟨v, n, R₁, hT, q⟩ => ?_) fun _ _ e => e)
  obtain ⟨h1, h2⟩ := hT s₁ R₁.led (R₁.base.trans R₁.keep)
  refine ⟨T, id, pa, slot, hty, h1, h2, Calls.callWith_builtin (by simp [hplain]) (evalArgs_plain ?_)⟩
  exact AW.then q R₁ fun as s₂ v n R₂ q => q g _ R₂
end

end Mine
end

section
namespace Mine
open PySem PySem.W PyProof.Rows PySem.Calls

section
variable {c : Cx} {vals : Vals} {news : Led}
/-! ints -/
section
variable {a b : Int} {t u : Tok} {Φ : Value → Vals → Led → Prop}
theorem AW.addI (h : ∀ t, Φ (.int (a + b) t) vals news) : AW c (binaryOp .Add (.int a t) (.int b u)) vals news Φ := fun _ _ R => PyProof.Rows.add_int ⟨_, _, R.tok _, h _⟩
theorem AW.iaddI (h : ∀ t, Φ (.int (a + b) t) vals news) : AW c (inplaceOp .Add (.int a t) (.int b u)) vals news Φ := fun _ _ R => PyProof.Rows.iadd_int ⟨_, _, R.tok _, h _⟩
theorem AW.subI (h : ∀ t, Φ (.int (a - b) t) vals news) : AW c (binaryOp .Sub (.int a t) (.int b u)) vals news Φ := fun _ _ R => PyProof.Rows.sub_int ⟨_, _, R.tok _, h _⟩
theorem AW.mulI (hm : IntMulOk a b) (h : ∀ t, Φ (.int (a * b) t) vals news) : AW c (binaryOp .Mult (.int a t) (.int b u)) vals news Φ := fun _ _ R => P.mul_int ⟨_, _, R.tok _, h _⟩ hm
theorem AW.divI (hb : b ≠ 0) (hs : b.natAbs < 1073741824) (h : ∀ t, Φ (.int (a.fdiv b) t) vals news) : AW c (binaryOp .FloorDiv (.int a t) (.int b u)) vals news Φ :=
  fun _ _ R => PyProof.Rows.floordiv_int hb ⟨_, _, R.tok _, h _⟩ (Or.inl (PyProof.noPylong_small hs))
theorem AW.modI (hb : b ≠ 0) (h : ∀ t, Φ (.int (a.fmod b) t) vals news) : AW c (binaryOp .Mod (.int a t) (.int b u)) vals news Φ := fun _ _ R => PyProof.Rows.mod_int' hb ⟨_, _, R.tok _, h _⟩
theorem AW.powI (hn : 0 ≤ b) (hsz : (Builtin.Int.intBits a : Int) * b ≤ 2 ^ 27) (h : ∀ t, Φ (.int (a ^ b.toNat) t) vals news) : AW c (binaryOp .Pow (.int a t) (.int b u)) vals news Φ := fun _ _ R => PyProof.Rows.pow_int hn hsz ⟨_, _, R.tok _, h _⟩
theorem AW.un {op : UnaryOp} {x : Expr} {pos : Pos} (h : AW c (eval x c.env) vals news fun a v n => AW c (unaryOp op a) v n Φ) : AW c (eval (.UnaryOp op x pos) c.env) vals news Φ :=
  fun g s R => wpAny_UnaryOp (AW.then h R fun _ _ _ _ r p => p g _ r)
theorem AW.negI (h : ∀ t, Φ (.int (-a) t) vals news) : AW c (unaryOp .USub (.int a t)) vals news Φ := fun _ _ R => P.neg_int ⟨_, _, R.tok _, h _⟩
theorem AW.subB {p q : Bool} (h : ∀ t, Φ (.int (b2i p - b2i q) t) vals news) : AW c (binaryOp .Sub (.bool p) (.bool q)) vals news Φ := fun _ _ R => PyProof.Rows.sub_bool ⟨_, _, R.tok _, h _⟩
theorem AW.eqI (h : Φ (.bool (a == b)) vals news) : AW c (compareOp .Eq (.int a t) (.int b u)) vals news Φ := fun _ _ R => PyProof.Rows.eq_int ⟨_, _, R, h⟩
theorem AW.neI (h : Φ (.bool (a != b)) vals news) : AW c (compareOp .NotEq (.int a t) (.int b u)) vals news Φ := fun _ _ R => PyProof.Rows.ne_int ⟨_, _, R, h⟩
theorem AW.ltI (h : Φ (.bool (decide (a < b))) vals news) : AW c (compareOp .Lt (.int a t) (.int b u)) vals news Φ := fun _ _ R => PyProof.Rows.lt_int ⟨_, _, R, h⟩
theorem AW.gtI (h : Φ (.bool (decide (b < a))) vals news) : AW c (compareOp .Gt (.int a t) (.int b u)) vals news Φ := fun _ _ R => PyProof.Rows.gt_int ⟨_, _, R, h⟩
theorem AW.geI (h : Φ (.bool (decide (b ≤ a))) vals news) : AW c (compareOp .GtE (.int a t) (.int b u)) vals news Φ := fun _ _ R => PyProof.Rows.ge_int ⟨_, _, R, h⟩
theorem AW.leI (h : Φ (.bool (decide (a ≤ b))) vals news) : AW c (compareOp .LtE (.int a t) (.int b u)) vals news Φ := fun _ _ R => PyProof.Rows.le_int ⟨_, _, R, h⟩
end
theorem AW.truthyI {a : Int} {t : Tok} {Φ : Bool → Vals → Led → Prop} (h : Φ (a != 0) vals news) : AW c (truthy (.int a t)) vals news Φ := fun _ _ R => P.truthy_int ⟨_, _, R, h⟩

/-! strs -/
section
variable {x y : Str} {t u : Tok} {Φ : Value → Vals → Led → Prop}
theorem AW.addS (hsz : x.length + y.length ≤ sizeLine) (h : ∀ t, Φ (.str (x ++ y) t) vals news) : AW c (binaryOp .Add (.str x t) (.str y u)) vals news Φ := fun _ _ R => PyProof.Rows.add_str (fun _ _ => ⟨_, _, R.tok _, h _⟩) hsz
theorem AW.iaddS (hsz : x.length + y.length ≤ sizeLine) (h : ∀ t, Φ (.str (x ++ y) t) vals news) : AW c (inplaceOp .Add (.str x t) (.str y u)) vals news Φ := fun _ _ R => PyProof.Rows.iadd_str (fun _ _ => ⟨_, _, R.tok _, h _⟩) hsz
theorem AW.eqS (h : Φ (.bool (x == y)) vals news) : AW c (compareOp .Eq (.str x t) (.str y u)) vals news Φ := fun _ _ R => PyProof.Rows.eq_str ⟨_, _, R, h⟩
theorem AW.neS (h : Φ (.bool (x != y)) vals news) : AW c (compareOp .NotEq (.str x t) (.str y u)) vals news Φ := fun _ _ R => PyProof.Rows.ne_str ⟨_, _, R, h⟩
theorem AW.ltS (h : Φ (.bool (x.cps.toList < y.cps.toList)) vals news) : AW c (compareOp .Lt (.str x t) (.str y u)) vals news Φ := fun _ _ R => P.lt_str ⟨_, _, R, h⟩
theorem AW.gtS (h : Φ (.bool (y.cps.toList < x.cps.toList)) vals news) : AW c (compareOp .Gt (.str x t) (.str y u)) vals news Φ := fun _ _ R => P.gt_str ⟨_, _, R, h⟩
theorem AW.getS {i : Int} {k : Nat} (h0 : 0 ≤ i) (hi : i < 2 ^ 63) (hc : x.cps[i.toNat]? = some k) (h : ∀ t, Φ (.str ⟨#[k]⟩ t) vals news) : AW c (getItem (.str x t) (.int i u)) vals news Φ := by
  intro g s R
  refine P.getItem_str (c := k) ?_ ?_ ⟨_, _, R.tok _, h _⟩
  · have a1 : ¬ i < -(2 ^ 63 : Int) := by omega
    have a2 : ¬ i ≥ (2 ^ 63 : Int) := by omega
    rw [decide_eq_false a1, decide_eq_false a2]; rfl
  · have hlt : i.toNat < x.cps.size := by
      rcases Nat.lt_or_ge i.toNat x.cps.size with q | q
      · exact q
      · rw [Array.getElem?_eq_none q] at hc; cases hc
    have e : seqIndex? i x.length = some i.toNat := by
      unfold seqIndex?
      have a1 : ¬ i < 0 := by omega
      have a2 : ¬ (i < 0 ∨ (x.length : Int) ≤ i) := by show ¬ (i < 0 ∨ (x.cps.size : Int) ≤ i); omega
      simp only [a1, if_false]
      simp_all
    rw [e]; exact hc
end

/-! lists, tuples -/
section
variable {Φ : Value → Vals → Led → Prop}
theorem AW.list_ {elts : List Expr} {pos : Pos} (h : AW c (spliced (backTo pos (starEach elts c.env))) vals news fun vs v n => AW c (newList vs) v n Φ) : AW c (eval (.List elts pos) c.env) vals news Φ :=
  fun g s R => List_ (AW.then h R fun _ _ _ _ r p => p g _ r)
theorem AW.tuple_ {elts : List Expr} {k : Nat} {pos : Pos} (h : AW c (spliced (backTo pos (starEach elts c.env))) vals news fun vs v n => AW c (newTuple vs) v n Φ) : AW c (eval (.Tuple elts k pos) c.env) vals news Φ :=
  fun g s R => Tuple_ (AW.then h R fun _ _ _ _ r p => p g _ r)
theorem AW.newL {vs : List Value} (G : Ok c) (hsz : vs.length ≤ sizeLine) (h : ∀ a, Φ (.ref a) vals ((a, .list vs) :: news)) : AW c (newList vs) vals news Φ := by
  intro g s R
  refine wpAny_newObj_type ⟨_, _, R.new G.top _ (.list vs) rfl ⟨0, rfl⟩, h _⟩ ?_
  show vs.toArray.size ≤ sizeLine
  rw [List.size_toArray]; exact hsz
theorem AW.newT {vs : List Value} (G : Ok c) (hsz : vs.length ≤ sizeLine) (h : ∀ a, Φ (.ref a) vals ((a, .tup vs) :: news)) : AW c (newTuple vs) vals news Φ := by
  intro g s R
  refine wpAny_newObj_type ⟨_, _, R.new G.top _ (.tup vs) rfl ⟨0, rfl⟩, h _⟩ ?_
  show vs.toArray.size ≤ sizeLine
  rw [List.size_toArray]; exact hsz
theorem AW.append {a : Addr} {its : List Value} {x : Value} {news' : Led} (hm : (a, .list its) ∈ news) (hu : Upd a (.list (its ++ [x])) news news') (hsz : its.length ≤ sizeLine) (h : Φ .none vals news') :
    AW c (call (.builtin "list.append") [.ref a, x]) vals news Φ := by
  intro g s R
  obtain ⟨o, ho, ⟨n, rfl⟩, hz⟩ := R.led _ hm
  refine append_at ho (fun h' hs ho' => ?_) (by rw [List.size_toArray]; exact hsz)
  refine ⟨vals, news', R.upd (tk := s.toks) hu hs ⟨_, ho', ⟨n + 1, ?_⟩, hz⟩, h⟩
  rw [List.push_toArray]
theorem AW.popAt {a : Addr} {its : List Value} {i : Int} {u : Tok} {y : Value} {news' : Led} (hm : (a, .list its) ∈ news) (h0 : 0 ≤ i) (hi : i < 2 ^ 62) (hy : its[i.toNat]? = some y) (hu : Upd a (.list (its.eraseIdx i.toNat)) news news') (hsz : its.length ≤ sizeLine) (h : Φ y vals news') :
    AW c (call (.builtin "list.pop") [.ref a, .int i u]) vals news Φ := by
  intro g s R
  obtain ⟨o, ho, ⟨n, rfl⟩, hz⟩ := R.led _ hm
  have hlt : i.toNat < its.length := by
    rcases Nat.lt_or_ge i.toNat its.length with q | q
    · exact q
    · rw [List.getElem?_eq_none q] at hy; cases hy
  refine call_meets F.slot_list_pop ⟨_, ho, rfl⟩ F.entry_list_pop (F.args_list_pop_2 _ _) (PySem.MeetsSeq.list_pop_at a its.toArray n i u i.toNat y ?_ ?_ (by simpa using hy) (by rw [List.size_toArray]; exact hsz)) ⟨ho, ?_⟩
  · unfold Builtin.List.listFitsIndex
    simp only [Bool.and_eq_true, decide_eq_true_eq]; omega
  · unfold seqIndex?
    simp
    omega
  · refine ⟨vals, news', R.upd (tk := s.toks) hu (Heap.SameBut.update ..) ⟨_, Heap.get?_update_self _ ho rfl, ⟨?_, ?_⟩, hz⟩, h⟩
    · exact if (its.toArray.eraseIdxIfInBounds i.toNat).size == its.toArray.size then n else n + 1
    · simp [Obj.mapSeq, Array.eraseIdxIfInBounds, hlt]
theorem AW.getL {a : Addr} {its : List Value} {i : Int} {u : Tok} {y : Value} (hm : HasL c news (a, .list its)) (h0 : 0 ≤ i) (hi : i < 2 ^ 63) (hy : its[i.toNat]? = some y) (h : Φ y vals news) : AW c (getItem (.ref a) (.int i u)) vals news Φ := by
  intro g s R
  obtain ⟨o, ho, ⟨n, rfl⟩, hz⟩ := R.has hm
  exact wpAny_getItem_list ⟨_, ho, rfl, n, rfl⟩ h0 hi (by simpa using hy) ⟨_, _, R, h⟩
theorem AW.lenL {a : Addr} {its : List Value} (hm : HasL c news (a, .list its)) (hsz : its.length < 2 ^ 62) (h : ∀ t, Φ (.int its.length t) vals news) : AW c (call (.builtin "len") [.ref a]) vals news Φ := by
  intro g s R
  obtain ⟨o, ho, ⟨n, rfl⟩, hz⟩ := R.has hm
  refine Calls.call_len_list ⟨_, ho, rfl, n, rfl⟩ (by rw [List.size_toArray]; omega) ⟨_, _, R.tok _, ?_⟩
  rw [List.size_toArray]; exact h _
theorem AW.lenT {a : Addr} {its : List Value} (hm : HasL c news (a, .tup its)) (hsz : its.length < 2 ^ 62) (h : ∀ t, Φ (.int its.length t) vals news) : AW c (call (.builtin "len") [.ref a]) vals news Φ := by
  intro g s R
  obtain ⟨o, ho, ⟨n, rfl⟩, hz⟩ := R.has hm
  refine PyProof.Rows.len_tuple ⟨_, ho, rfl, n, rfl⟩ (by rw [List.size_toArray]; omega) ⟨_, _, R.tok _, ?_⟩
  rw [List.size_toArray]; exact h _
theorem AW.lenS {x : Str} {t : Tok} (hsz : x.length < 2 ^ 62) (h : ∀ t, Φ (.int x.length t) vals news) : AW c (call (.builtin "len") [.str x t]) vals news Φ := by
  intro g s R
  exact PyProof.Rows.len_str (by omega) ⟨_, _, R.tok _, h _⟩

theorem AW.sub {value slice : Expr} {pos : Pos} (h : AW c (eval value c.env) vals news fun o v n => AW c (eval slice c.env) v n fun i v n => AW c (subscriptTail value slice o i) v n Φ) : AW c (eval (.Subscript value slice pos) c.env) vals news Φ :=
  fun g s R => Subscript_ (AW.then h R fun _ _ _ _ r p => AW.then p r fun _ _ _ _ r p => p g _ r)
theorem AW.tailL {value slice : Expr} {a : Addr} {its : List Value} {i : Value} {ops : List Value} (hm : HasL c news (a, .list its)) (hs : subscripted slice false (.ref a) i = operate ops (getItem (.ref a) i)) (h : AW c (getItem (.ref a) i) vals news Φ) :
    AW c (subscriptTail value slice (.ref a) i) vals news Φ := by
  intro g s R
  obtain ⟨o, ho, ⟨n, rfl⟩, hz⟩ := R.has hm
  exact tail_any (T := "list") ⟨_, ho, rfl⟩ PySem.slot_list_getitem.lookup (h g s R) hs
theorem AW.tailD {value slice : Expr} {a : Addr} {kvs : List (Str × Value)} {i : Value} {ops : List Value} (hm : HasL c news (a, .dict kvs)) (hs : subscripted slice false (.ref a) i = operate ops (getItem (.ref a) i)) (h : AW c (getItem (.ref a) i) vals news Φ) :
    AW c (subscriptTail value slice (.ref a) i) vals news Φ := by
  intro g s R
  obtain ⟨o, ho, hd, hz⟩ := R.has hm
  have hD : s.heap.DictOf (strKind PySem.Challenge.rw_wj0025_01.row.prog c.w) a kvs := Heap.dictOf_iff.mpr ⟨o, ho, hd⟩
  exact tail_any (T := "dict") hD.typeIs PySem.slot_dict_getitem.lookup (h g s R) hs
theorem AW.tailS {value slice : Expr} {x : Str} {t : Tok} {i : Value} {ops : List Value} (hs : subscripted slice false (.str x t) i = operate ops (getItem (.str x t) i)) (h : AW c (getItem (.str x t) i) vals news Φ) :
    AW c (subscriptTail value slice (.str x t) i) vals news Φ := by
  intro g s R
  exact tail_any (T := "str") (typeIs_str s x t) F.slot_str_getitem.lookup (h g s R) hs

/-! dicts keyed by strs -/
theorem AW.getD {a : Addr} {kvs : List (Str × Value)} {k : Str} {t : Tok} {v : Value} (hm : HasL c news (a, .dict kvs)) (hv : valueAt kvs k = some v) (h : Φ v vals news) : AW c (getItem (.ref a) (.str k t)) vals news Φ := by
  intro g s R
  obtain ⟨o, ho, hd, hz⟩ := R.has hm
  have hD : s.heap.DictOf (strKind PySem.Challenge.rw_wj0025_01.row.prog c.w) a kvs := Heap.dictOf_iff.mpr ⟨o, ho, hd⟩
  exact wpAny_getItem_of (strKind_is _ _ k t) hD.mapOf hv ⟨_, _, R.tok _, h⟩
theorem AW.inD {a : Addr} {kvs : List (Str × Value)} {k : Str} {t : Tok} (hm : HasL c news (a, .dict kvs)) (h : Φ (.bool (valueAt kvs k).isSome) vals news) : AW c (compareOp .In (.str k t) (.ref a)) vals news Φ := by
  intro g s R
  obtain ⟨o, ho, hd, hz⟩ := R.has hm
  have hD : s.heap.DictOf (strKind PySem.Challenge.rw_wj0025_01.row.prog c.w) a kvs := Heap.dictOf_iff.mpr ⟨o, ho, hd⟩
  exact wpAny_in_of (strKind_is _ _ k t) hz hD.mapOf ⟨_, _, R.tok _, h⟩
theorem AW.notInD {a : Addr} {kvs : List (Str × Value)} {k : Str} {t : Tok} (hm : HasL c news (a, .dict kvs)) (h : Φ (.bool (!(valueAt kvs k).isSome)) vals news) : AW c (compareOp .NotIn (.str k t) (.ref a)) vals news Φ := by
  intro g s R
  obtain ⟨o, ho, hd, hz⟩ := R.has hm
  have hD : s.heap.DictOf (strKind PySem.Challenge.rw_wj0025_01.row.prog c.w) a kvs := Heap.dictOf_iff.mpr ⟨o, ho, hd⟩
  exact wpAny_notIn_of (strKind_is _ _ k t) hz hD.mapOf ⟨_, _, R.tok _, h⟩
theorem AW.newD {pos : Pos} (G : Ok c) (h : ∀ a, Φ (.ref a) vals ((a, .dict []) :: news)) : AW c (eval (.Dict [] [] pos) c.env) vals news Φ := by
  intro g s R
  refine wpAny_Dict_empty ⟨_, _, R.new G.top _ (.dict []) rfl ?_, h _⟩
  exact ⟨#[], 0, ⟨rfl, rfl, rfl⟩, rfl, (fun e he => by simp at he), .nil, by simp⟩
end
theorem AW.setD {a : Addr} {kvs : List (Str × Value)} {k : Str} {t : Tok} {v : Value} {news' : Led} {Φ : Unit → Vals → Led → Prop} (hm : (a, .dict kvs) ∈ news) (hu : Upd a (.dict (stored kvs k v)) news news') (hsz : kvs.length ≤ sizeLine) (h : Φ () vals news') :
    AW c (setItem (.ref a) (.str k t) v) vals news Φ := by
  intro g s R
  obtain ⟨o, ho, hd, hz⟩ := R.led _ hm
  have hD : s.heap.DictOf (strKind PySem.Challenge.rw_wj0025_01.row.prog c.w) a kvs := Heap.dictOf_iff.mpr ⟨o, ho, hd⟩
  refine wpAny_setItem_pairs (strKind_is _ _ k t) hD (fun h' hD' hs => ?_) hsz
  obtain ⟨o', ho', hd'⟩ := Heap.dictOf_iff.mp hD'
  exact ⟨vals, news', R.upd hu hs ⟨o', ho', hd', hz⟩, h⟩
theorem AW.assignSub {o i : Expr} {pos' pos : Pos} {value : Expr} {Φ : Flow → Vals → Led → Prop} (hs : swapsWith value (some (.Subscript o i pos')) pos.line c.env = Pure.pure false)
    (h : AW c (eval value c.env) vals news fun x v n => AW c (eval o c.env) v n fun ov v n => AW c (eval i c.env) v n fun iv v n => AW c (setItem ov iv x) v n fun _ => Φ .next) : AW c (exec (.Assign [.Subscript o i pos'] value pos) c.env) vals news Φ :=
  fun g s R => wpAny_Assign_Subscript (AW.then h R fun _ _ _ _ r p => AW.then p r fun _ _ _ _ r p => AW.then p r fun _ _ _ _ r p => p g _ r) hs
theorem AW.augSub {o i : Expr} {tpos pos : Pos} {op : Operator} {value : Expr} {Φ : Flow → Vals → Led → Prop} (hi : ∀ ov iv new, augStore i ov iv new = (do holding [new, ov, iv] (setItem ov iv new); release [new, ov, iv] []; Pure.pure .next))
    (h : AW c (eval o c.env) vals news fun ov v n => AW c (eval i c.env) v n fun iv v n => AW c (getItem ov iv) v n fun old v n => AW c (eval value c.env) v n fun x v n => AW c (inplaceOp op old x) v n fun y v n => AW c (setItem ov iv y) v n fun _ => Φ .next) :
    AW c (exec (.AugAssign (.Subscript o i tpos) op value pos) c.env) vals news Φ :=
  fun g s R => wpAny_AugAssign_SubscriptAny (AW.then h R fun _ _ _ _ r p => AW.then p r fun _ _ _ _ r p => AW.then p r fun _ _ _ _ r p => AW.then p r fun _ _ _ _ r p => AW.then p r fun _ _ _ _ r p => p g _ r) hi
end

end Mine
end

section
namespace Mine
open PySem PySem.W PyProof.Rows PySem.Calls

theorem gl_Whitespace (P : Params) : nsIn (KF P) mainGlobals (Str.ofString "Whitespace") = some (some (.ref 83)) := by kernel_rfl
theorem gl_Int2AP (P : Params) : nsIn (KF P) mainGlobals (Str.ofString "Int2AP") = some (some (.ref 94)) := by kernel_rfl
theorem gl_strcoll (P : Params) : nsIn (KF P) mainGlobals (Str.ofString "_strcoll") = some (some (.ref 101)) := by kernel_rfl
theorem gl_strxfrm (P : Params) : nsIn (KF P) mainGlobals (Str.ofString "_strxfrm") = some (some (.ref 108)) := by kernel_rfl
theorem gl_ENDMARKER (P : Params) : nsIn (KF P) mainGlobals (Str.ofString "ENDMARKER") = some (some (.int 0 323)) := by kernel_rfl
theorem gl_NT_OFFSET (P : Params) : nsIn (KF P) mainGlobals (Str.ofString "NT_OFFSET") = some (some (.int 256 325)) := by kernel_rfl
theorem gl_ISNONTERMINAL (P : Params) : nsIn (KF P) mainGlobals (Str.ofString "ISNONTERMINAL") = some (some (.ref 115)) := by kernel_rfl
theorem gl_ISEOF (P : Params) : nsIn (KF P) mainGlobals (Str.ofString "ISEOF") = some (some (.ref 122)) := by kernel_rfl
theorem gl_order (P : Params) : nsIn (KF P) mainGlobals (Str.ofString "_law_order") = some (some (.ref 129)) := by kernel_rfl
theorem gl_moved (P : Params) : nsIn (KF P) mainGlobals (Str.ofString "_law_moved") = some (some (.ref 134)) := by kernel_rfl
theorem gl_number (P : Params) : nsIn (KF P) mainGlobals (Str.ofString "_law_number") = some (some (.ref 141)) := by kernel_rfl
theorem gl_written (P : Params) : nsIn (KF P) mainGlobals (Str.ofString "_law_written") = some (some (.ref 146)) := by kernel_rfl
theorem gl_group (P : Params) : nsIn (KF P) mainGlobals (Str.ofString "_law_group") = some (some (.ref 153)) := by kernel_rfl
theorem gl_lead (P : Params) : nsIn (KF P) mainGlobals (Str.ofString "_law_lead") = some (some (.ref 160)) := by kernel_rfl
theorem gl_kinds (P : Params) : nsIn (KF P) mainGlobals (Str.ofString "_law_kinds") = some (some (.ref 167)) := by kernel_rfl
theorem bl_enumerate (P : Params) : nsIn (KF P) mainGlobals (Str.ofString "enumerate") = some none := by kernel_rfl
theorem bl_range (P : Params) : nsIn (KF P) mainGlobals (Str.ofString "range") = some none := by kernel_rfl
theorem bl_len (P : Params) : nsIn (KF P) mainGlobals (Str.ofString "len") = some none := by kernel_rfl
theorem bl_ord (P : Params) : nsIn (KF P) mainGlobals (Str.ofString "ord") = some none := by kernel_rfl
theorem bl_chr (P : Params) : nsIn (KF P) mainGlobals (Str.ofString "chr") = some none := by kernel_rfl
theorem bl_abs (P : Params) : nsIn (KF P) mainGlobals (Str.ofString "abs") = some none := by kernel_rfl
theorem bl_int (P : Params) : nsIn (KF P) mainGlobals (Str.ofString "int") = some none := by kernel_rfl
theorem bl_divmod (P : Params) : nsIn (KF P) mainGlobals (Str.ofString "divmod") = some none := by kernel_rfl
theorem bl_tuple (P : Params) : nsIn (KF P) mainGlobals (Str.ofString "tuple") = some none := by kernel_rfl
theorem bl_sorted (P : Params) : nsIn (KF P) mainGlobals (Str.ofString "sorted") = some none := by kernel_rfl
theorem bl_min (P : Params) : nsIn (KF P) mainGlobals (Str.ofString "min") = some none := by kernel_rfl
theorem bb_enumerate : bootBuiltins (Str.ofString "enumerate") = some (.type "enumerate") := by kernel_rfl
theorem bb_range : bootBuiltins (Str.ofString "range") = some (.type "range") := by kernel_rfl
theorem bb_len : bootBuiltins (Str.ofString "len") = some (.builtin "len") := by kernel_rfl
theorem bb_ord : bootBuiltins (Str.ofString "ord") = some (.builtin "ord") := by kernel_rfl
theorem bb_chr : bootBuiltins (Str.ofString "chr") = some (.builtin "chr") := by kernel_rfl
theorem bb_abs : bootBuiltins (Str.ofString "abs") = some (.builtin "abs") := by kernel_rfl
theorem bb_int : bootBuiltins (Str.ofString "int") = some (.type "int") := by kernel_rfl
theorem bb_divmod : bootBuiltins (Str.ofString "divmod") = some (.builtin "divmod") := by kernel_rfl
theorem bb_tuple : bootBuiltins (Str.ofString "tuple") = some (.type "tuple") := by kernel_rfl
theorem bb_sorted : bootBuiltins (Str.ofString "sorted") = some (.builtin "sorted") := by kernel_rfl
theorem bb_min : bootBuiltins (Str.ofString "min") = some (.builtin "min") := by kernel_rfl

section
variable {c : Cx} {vals : Vals} {news : Led} {Φ : Value → Vals → Led → Prop}
theorem AW.nameB' {x : Str} {pos : Pos} {v : Value} (G : Ok c) (hx : c.env.kindOf x = some .globalImplicit) (e : nsIn (KF c.w.params) mainGlobals x = some none) (hv : bootBuiltins x = some v) (hn : (x == ("__name__" : Str)) = false)
    (hd : (x == ("__debug__" : Str)) = false) (h : Φ v vals news) : AW c (eval (.Name x pos) c.env) vals news Φ :=
  AW.nameB G e hv (beq_eq_false_iff_ne.mp hn) hx hd h
end
theorem kin_fn (P : Params) : keepIn (KF P) (.ref 94) = true ∧ keepIn (KF P) (.ref 101) = true ∧ keepIn (KF P) (.ref 108) = true ∧ keepIn (KF P) (.ref 115) = true ∧ keepIn (KF P) (.ref 122) = true ∧ keepIn (KF P) (.ref 129) = true ∧ keepIn (KF P) (.ref 134) = true ∧
    keepIn (KF P) (.ref 141) = true ∧ keepIn (KF P) (.ref 146) = true ∧ keepIn (KF P) (.ref 153) = true ∧ keepIn (KF P) (.ref 160) = true ∧ keepIn (KF P) (.ref 167) = true := ⟨by kernel_rfl, by kernel_rfl, by kernel_rfl, by kernel_rfl, by kernel_rfl, by kernel_rfl, by kernel_rfl, by kernel_rfl, by kernel_rfl, by kernel_rfl, by kernel_rfl, by kernel_rfl⟩
theorem kin_cls (P : Params) : keepIn (KF P) (.ref 83) = true := by kernel_rfl
end Mine
end

section
namespace Mine
open PySem PySem.W PyProof.Rows PySem.Calls

section
variable {c : Cx} {vals : Vals} {news : Led}
theorem AW.sp0 {pos : Pos} {Φ : List Value → Vals → Led → Prop} (h : Φ [] vals news) : AW c (spliced (backTo pos (starEach [] c.env))) vals news Φ := AW.spl0 h
theorem AW.sp1 {pos : Pos} {e : Expr} {rest : List Expr} {Φ : List Value → Vals → Led → Prop} (he : starEach (e :: rest) c.env = (false, eval e c.env) :: starEach rest c.env)
    (h : AW c (eval e c.env) vals news fun a v n => AW c (spliced (backTo pos (starEach rest c.env))) v n fun as => Φ (a :: as)) : AW c (spliced (backTo pos (starEach (e :: rest) c.env))) vals news Φ := by
  rw [he]; exact AW.spl1 h
section
variable {x : Str} {p pos : Pos} {e : Expr} {rest : List Expr} {Φ : Value → Vals → Led → Prop}
theorem AW.cF {f : Value} (G : Ok c) (he : starEach (e :: rest) c.env = (false, eval e c.env) :: starEach rest c.env) (hp : (backTo pos (starEach rest c.env)).any (·.1) = false)
    (hf : AW c (eval (.Name x p) c.env) vals news fun a v n => a = f ∧ v = vals ∧ n = news) (hk : keepIn (KF c.w.params) f = true)
    (h : AW c (spliced (backTo pos (starEach (e :: rest) c.env))) vals news fun as v n => AW c (call f as) v n Φ) : AW c (eval (.Call (.Name x p) (e :: rest) [] pos) c.env) vals news Φ := by
  rw [he] at h
  exact AW.callF G (by rw [he]; rfl) hp hf hk h
theorem AW.cB {id : String} (he : starEach (e :: rest) c.env = (false, eval e c.env) :: starEach rest c.env) (hp : (backTo pos (starEach rest c.env)).any (·.1) = false)
    (hf : AW c (eval (.Name x p) c.env) vals news fun a v n => a = .builtin id ∧ v = vals ∧ n = news)
    (h : AW c (spliced (backTo pos (starEach (e :: rest) c.env))) vals news fun as v n => AW c (call (.builtin id) as) v n Φ) : AW c (eval (.Call (.Name x p) (e :: rest) [] pos) c.env) vals news Φ := by
  rw [he] at h
  exact AW.callB (by rw [he]; rfl) hp hf h
theorem AW.cT {T : String} (he : starEach (e :: rest) c.env = (false, eval e c.env) :: starEach rest c.env) (hp : (backTo pos (starEach rest c.env)).any (·.1) = false)
    (hf : AW c (eval (.Name x p) c.env) vals news fun a v n => a = .type T ∧ v = vals ∧ n = news)
    (h : AW c (spliced (backTo pos (starEach (e :: rest) c.env))) vals news fun as v n => AW c (call (.type T) as) v n Φ) : AW c (eval (.Call (.Name x p) (e :: rest) [] pos) c.env) vals news Φ := by
  rw [he] at h
  exact AW.callT (by rw [he]; rfl) hp hf h
theorem AW.cM {o : Expr} {name : Str} {apos : Pos} {T id : String} (pa : PlainAttrs T) (slot : Slot T name id) (hty : typeOf (Value.builtin id) = Pure.pure (Value.type "method_descriptor"))
    (hbase : attributeBase o name c.env (eval o c.env) = eval o c.env)
    (hfew : ((backTo pos (starEach (e :: rest) c.env)).all (fun x => !x.1) && (backToKw pos (keywordEach [] c.env)).all (fun x => x.1.isSome)
      && decide ((e :: rest).length + ([] : List Keyword).length + (if ([] : List Keyword).isEmpty then 0 else 1) < 30)) = true)
    (hline : (apos.endLine == pos.line) = true) (he : starEach (e :: rest) c.env = (false, eval e c.env) :: starEach rest c.env) (hp : (backTo pos (starEach rest c.env)).any (·.1) = false)
    (h : AW c (eval o c.env) vals news fun ov v n => (∀ s : Shared, (∀ p ∈ n, Has c.w s.heap p) → Ext c.h₀ s.heap → s.TypeIs ov T ∧ (∀ a, ov = .ref a → ∃ ob, s.heap.get? a = some ob ∧ ob.dict = none)) ∧
      AW c (spliced (backTo pos (starEach (e :: rest) c.env))) v n fun as v n => AW c (call (.builtin id) (ov :: as)) v n Φ) : AW c (eval (.Call (.Attribute o name apos) (e :: rest) [] pos) c.env) vals news Φ := by
  have he' : backTo pos (starEach (e :: rest) c.env) = (false, eval e c.env) :: backTo pos (starEach rest c.env) := by rw [he]; rfl
  refine AW.callM hbase hfew hline he' hp pa slot hty (h.mono fun ov v n q => ⟨q.1, ?_⟩)
  rw [← he']; exact q.2
end

theorem isL {n : Led} {a : Addr} {its : List Value} (h : HasL c n (a, .list its)) : ∀ s : Shared, (∀ p ∈ n, Has c.w s.heap p) → Ext c.h₀ s.heap → s.TypeIs (.ref a) "list" ∧ (∀ b, Value.ref a = .ref b → ∃ ob, s.heap.get? b = some ob ∧ ob.dict = none) := by
  intro s hn he
  obtain ⟨o, ho, ⟨k, rfl⟩, hz⟩ : Has c.w s.heap (a, .list its) := h.elim (hn _) fun q => q.ext he
  exact ⟨⟨_, ho, rfl⟩, fun b e => by cases e; exact ⟨_, ho, rfl⟩⟩
theorem isD {n : Led} {a : Addr} {kvs : List (Str × Value)} (h : HasL c n (a, .dict kvs)) : ∀ s : Shared, (∀ p ∈ n, Has c.w s.heap p) → Ext c.h₀ s.heap → s.TypeIs (.ref a) "dict" ∧ (∀ b, Value.ref a = .ref b → ∃ ob, s.heap.get? b = some ob ∧ ob.dict = none) := by
  intro s hn he
  obtain ⟨o, ho, ⟨es, ep, hx, r⟩, hz⟩ : Has c.w s.heap (a, .dict kvs) := h.elim (hn _) fun q => q.ext he
  exact ⟨⟨_, ho, hx.1⟩, fun b e => by cases e; exact ⟨_, ho, hx.2.1⟩⟩
theorem isS {n : Led} {x : Str} {t : Tok} : ∀ s : Shared, (∀ p ∈ n, Has c.w s.heap p) → Ext c.h₀ s.heap → s.TypeIs (.str x t) "str" ∧ (∀ b, Value.str x t = .ref b → ∃ ob, s.heap.get? b = some ob ∧ ob.dict = none) :=
  fun s _ _ => ⟨typeIs_str s x t, fun b e => by cases e⟩

/-- a call for its effect alone: what it gives back is None -/
theorem AW.exprN {e : Expr} {pos : Pos} {Φ : Flow → Vals → Led → Prop} (hi : interactive c.env = false) (hs : swapsWith e none pos.line c.env = Pure.pure false)
    (h : AW c (eval e c.env) vals news fun a v n => a = .none ∧ Φ .next v n) : AW c (exec (.Expr e pos) c.env) vals news Φ := by
  intro g s R
  refine wpAny_Expr (wpAny_mono (h g s R) (fun a s' ⟨v, n, r, e1, q⟩ => ?_) fun _ _ e => e) hi hs
  subst e1
  exact ⟨v, n, r, q⟩
end
theorem slotAppend : Slot "list" (Str.ofString "append") "list.append" := F.slot_list_append
theorem slotPop : Slot "list" (Str.ofString "pop") "list.pop" := F.slot_list_pop
end Mine
end

section
namespace Mine
open PySem PySem.W PyProof.Rows PySem.Calls

theorem one_src {c : Cx} {n : Led} {p q : Addr × MO} (h : HasL c n q) (hp : p ∈ [q]) : HasL c n p := by rw [List.mem_singleton.mp hp]; exact h

/-! a word of a list's -/
theorem pget {α β : Type} {F : α → β → Prop} {l : List α} {m : List β} (h : Paired F l m) : ∀ (i : Nat) (b : β), m[i]? = some b → ∃ a, l[i]? = some a ∧ F a b := by
  induction h with
  | nil => intro i b e; simp at e
  | cons h _ ih =>
    intro i b e
    cases i with
    | zero => simp at e; exact ⟨_, rfl, e ▸ h⟩
    | succ i => obtain ⟨a, h1, h2⟩ := ih i b (by simpa using e); exact ⟨a, by simpa using h1, h2⟩
theorem pgetL {α β : Type} {F : α → β → Prop} {l : List α} {m : List β} (h : Paired F l m) : ∀ (i : Nat) (a : α), l[i]? = some a → ∃ b, m[i]? = some b ∧ F a b := by
  induction h with
  | nil => intro i b e; simp at e
  | cons h _ ih =>
    intro i b e
    cases i with
    | zero => simp at e; exact ⟨_, rfl, e ▸ h⟩
    | succ i => obtain ⟨a, h1, h2⟩ := ih i b (by simpa using e); exact ⟨a, by simpa using h1, h2⟩
theorem perase {α β : Type} {F : α → β → Prop} {l : List α} {m : List β} (h : Paired F l m) : ∀ i : Nat, Paired F (l.eraseIdx i) (m.eraseIdx i) := by
  induction h with
  | nil => intro i; exact .nil
  | cons h t ih =>
    intro i
    cases i with
    | zero => exact t
    | succ i => exact .cons h (ih i)

noncomputable def IsN (v : Value) (n : Nat) : Prop := ∃ t, v = .int n t
noncomputable def IsStr (v : Value) (x : Str) : Prop := ∃ t, v = .str x t
end Mine
end

section
namespace Mine
open PySem PySem.W PyProof.Rows PySem.Calls

noncomputable abbrev ccx (c : Cx) (scope : Scope) (cl : List (Str × Addr)) (C : Addr) (x : Str) (s : Shared) : Cx := { w := c.w, A := c.A, env := compEnvC scope cl C c.env, h₀ := s.heap, s₀ := s, nm := [x], ro := true }

/-- one turn of a comprehension, in the comprehension's own frame, which stands still -/
structure Elt (c : Cx) (scope : Scope) (cl : List (Str × Addr)) (x : Str) (n₁ : Led) (C : Addr) (s : Shared) : Prop where
  ok : Ok (ccx c scope cl C x s)
  base : Ext c.h₀ s.heap
  led : ∀ p ∈ n₁, Has c.w s.heap p
theorem Elt.has {c : Cx} {scope : Scope} {cl : List (Str × Addr)} {x : Str} {n₁ : Led} {C : Addr} {s : Shared} (e : Elt c scope cl x n₁ C s) {p : Addr × MO} (h : HasL c n₁ p) : Has c.w s.heap p := h.elim (e.led p) fun q => q.ext e.base

theorem Elt.hasL {c : Cx} {scope : Scope} {cl : List (Str × Addr)} {x : Str} {n₁ news : Led} {C : Addr} {s : Shared} (e : Elt c scope cl x n₁ C s) {p : Addr × MO} (h : HasL c n₁ p) : HasL (ccx c scope cl C x s) news p := .inr (e.has h)

theorem quiet_of {c : Cx} {scope : Scope} {cl : List (Str × Addr)} {x : Str} {elt : Expr} {n₁ : Led} {s₂ : Shared} {wr : List Addr} {P : Nat → Value → Prop} {F : Value → Value → Prop} (G : Ok c) (hk : scope.kind = .function)
    (hwr : ∀ b ∈ wr, c.h₀.get? b = none ∧ b ∉ n₁.map (·.1)) (hb : Ext c.h₀ s₂.heap) (hl : ∀ p ∈ n₁, Has c.w s₂.heap p)
    (elt_ : ∀ C s i v, P i v → Elt c scope cl x n₁ C s → AW (ccx c scope cl C x s) (eval elt (ccx c scope cl C x s).env) [some v] [] fun y _ _ => F v y) :
    QuietOnC PySem.Challenge.rw_wj0025_01.row.prog c.w c.A c.env scope cl x [] elt wr P (fun _ => true) F s₂ where
  tests := fun C i v s₃ m₃ E' _ _ _ _ _ _ => wpAny_tests_nil ⟨rfl, _, _, rfl, fun _ _ e => e⟩
  elt := fun C i v s₃ m₃ E' hC hP _ hn hm hk' _ => by
    have e1 : Ext c.h₀ s₃.heap := fun b o q => hk' b o (fun m => by rw [(hwr b m).1] at q; cases q) (hb b o q)
    have e : Elt c scope cl x n₁ C s₃ := ⟨⟨G.han, G.top.ext e1, G.glo, G.blt, hk, by simp⟩, e1, fun p hp => by
      obtain ⟨o, ho, r⟩ := hl p hp
      exact ⟨o, hk' _ o (fun m => (hwr _ m).2 (List.mem_map_of_mem hp)) ho, r⟩⟩
    have R : Rel (ccx c scope cl C x s₃) s₃.heap [some v] [] s₃ := ⟨⟨s₃.heap, s₃.toks, rfl⟩, Ext.refl _, Ext.refl _, ⟨m₃, hn, fun j y u h1 h2 => by
      cases j with
      | zero => simp at h1 h2; rw [← h1, ← h2]; exact hm
      | succ j => simp at h1, fun _ _ _ e => nomatch e⟩, (by intro p hp; cases hp), by simp, (by intro p hp; cases hp), by intro o q; exact q⟩
    exact wpAny_mono (elt_ C s₃ i v hP e s₃.heap s₃ R) (fun y s' ⟨v', n', R', hF⟩ => ⟨hF, keeps_of_rel (c := ccx c scope cl C x s₃) R' rfl⟩) fun _ _ f => f.elim

/-- what a comprehension over a list, a str's signs, a range or bytes reads: a walk on its own iterator alone (and what stands in src) -/
noncomputable def Feeds (c : Cx) (xv : Value) (src : Led) (n : Nat) (P : Nat → Value → Prop) : Prop :=
  ∀ (s : Shared) (Q : Value → Shared → Prop) (E : Value → Shared → Prop), (∀ p ∈ src, Has c.w s.heap p) →
    (∀ I fp St h' tk, Ext s.heap h' → s.heap.get? I = none → (∀ b ∈ fp, b < h'.objs.size) → St 0 h' → Walks PySem.Challenge.rw_wj0025_01.row.prog c.w c.A I fp [I] n P St → Q (.ref I) { s with heap := h', toks := tk }) → wpAny (MD c.w) c.A (pyIter xv) Q E s

theorem feeds_list {c : Cx} (G : Ok c) {a : Addr} {its : List Value} : Feeds c (.ref a) [(a, .list its)] its.length (fun i v => its[i]? = some v) := by
  intro s Q E hs hQ
  obtain ⟨o, ho, ⟨n, hm⟩, _⟩ := hs (a, .list its) (by simp)
  have hne : a ≠ s.heap.objs.size := Nat.ne_of_lt (Heap.lt_size ho)
  have hl : s.heap.IsList a its.toArray := ⟨o, ho, by rw [hm], n, by rw [hm]⟩
  have W := Walks.list (prog := PySem.Challenge.rw_wj0025_01.row.prog) (w := c.w) G.han s.heap.objs.size a hne its.toArray
  refine wpAny_pyIter_list hl (hQ _ [s.heap.objs.size, a] (fun i h => h.IsListIter s.heap.objs.size a i ∧ h.IsList a its.toArray) _ s.toks (Ext.push _ _) (get_none_of_size _ _ (Nat.le_refl _)) ?_ ⟨⟨_, Heap.get?_push_size _ rfl, rfl, rfl⟩, hl.push _⟩ (by simpa using W))
  intro b hb
  rw [Heap.size_push]
  rcases List.mem_cons.mp hb with rfl | hb
  · exact Nat.lt_succ_self _
  · rw [List.mem_singleton.mp hb]; exact Nat.lt_succ_of_lt (Heap.lt_size ho)

theorem feeds_str {c : Cx} (G : Ok c) {y : Str} {t : Tok} : Feeds c (.str y t) [] y.cps.size (SignAt y) := by
  intro s Q E _ hQ
  have hf : ∀ o : Obj, ∀ b ∈ [s.heap.objs.size], b < (s.heap.push o).objs.size := fun o b hb => by rw [Heap.size_push, List.mem_singleton.mp hb]; exact Nat.lt_succ_self _
  exact wpAny_pyIter_str fun o St W st => hQ _ [s.heap.objs.size] St _ s.toks (Ext.push _ _) (get_none_of_size _ _ (Nat.le_refl _)) (hf o) st (W c.A G.han)

theorem rel_comp {c : Cx} {g : Heap} {vals : Vals} {news : Led} {s₁ : Shared} (R : Rel c g vals news s₁) {h' : Heap} {tk : Nat} {D : Addr} {ys : List Value} (e : Ext s₁.heap h') (hD : s₁.heap.get? D = none) (hl : h'.PlainList D ys.toArray) :
    Rel c g vals ((D, .list ys) :: news) { s₁ with heap := h', toks := tk } := by
  have R' : Rel c g vals news { s₁ with heap := h', toks := tk } := R.grow e
  refine R'.add (tl := [(D, .list ys)]) (by simp) ?_
  intro p hp
  rw [List.mem_singleton.mp hp]
  obtain ⟨n, ho⟩ := hl
  refine ⟨⟨_, ho, ⟨n, rfl⟩, trivial⟩, fun q => ?_, ?_⟩
  · obtain ⟨o', ho'⟩ := R.lives _ q
    rw [hD] at ho'; cases ho'
  · cases q : g.get? D with
    | none => rfl
    | some o' => have := R.keep _ _ q; rw [hD] at this; cases this

theorem AW.comp {c : Cx} {vals : Vals} {news : Led} {elt iter : Expr} {x : Str} {px : Pos} {scope : Scope} {cl : List (Str × Addr)} {pos : Pos} {Φ : Value → Vals → Led → Prop} (F : Value → Value → Prop) (G : Ok c)
    (hclos : closureFor scope c.env = Pure.pure cl) (hcell : ∀ y ∈ scope.names, y.2 ≠ .cell) (hkind : scope.kind = .function)
    (hnames : ∀ y ∈ scope.names, y.2 = .local → scope.names.lookup y.1 = some .local) (hx : scope.names.lookup x = some .local) (hs : ∀ x, foldedSetIterable iter c.env x = Pure.pure x)
    (h : AW c (eval iter c.env) vals news fun xv v₁ n₁ => ∃ src n P, Feeds c xv src n P ∧ (∀ p ∈ src, HasL c n₁ p) ∧ n ≤ sizeLine ∧
      (∀ C s i v, P i v → Elt c scope cl x n₁ C s → AW (ccx c scope cl C x s) (eval elt (ccx c scope cl C x s).env) [some v] [] fun y _ _ => F v y) ∧
      (∀ a (vs ys : List Value), vs.length = n → (∀ (j : Nat) v, vs[j]? = some v → P j v) → Paired F vs ys → Φ (.ref a) v₁ ((a, .list ys) :: n₁))) :
    AW c (eval (.ListComp elt [⟨.Name x px, iter, [], 0⟩] scope pos) c.env) vals news Φ := by
  intro g s R
  refine wpAny_ListComp_free (fun _ => true) F hclos hcell hkind hnames hx (wpAny_mono (h g s R) (fun xv s₁ ⟨v₁, n₁, R₁, src, n, P, hf, hsrc, hsz, helt, hfin⟩ => ?_) fun _ _ e => e) hs
  refine hf s₁ _ _ (fun p hp => R₁.has (hsrc p hp)) fun I fp St h' tk he hI hfp hst W => ?_
  have hin : ∀ b ∈ [I], c.h₀.get? b = none ∧ b ∉ n₁.map (·.1) := fun b hb => by
    rw [List.mem_singleton.mp hb]
    refine ⟨?_, fun q => ?_⟩
    · cases q : c.h₀.get? I with
      | none => rfl
      | some o => have := R₁.keep _ _ (R₁.base _ _ q); rw [hI] at this; cases this
    · obtain ⟨o, ho⟩ := R₁.lives _ (List.mem_cons_of_mem _ q)
      rw [hI] at ho; cases ho
  refine ⟨I, fp, [I], n, P, St, rfl, W, hsz, hst, hfp, quiet_of G hkind hin ((R₁.base.trans R₁.keep).trans he) (fun p hp => (R₁.led p hp).ext he) helt, ?_⟩
  intro D h'' tk' ys vs hD _ hpl hlen hP hpair hk
  have hys : ys = ys.toList.toArray := by simp
  have e2 : Ext s₁.heap h'' := fun b o q => hk b o (fun m => by rw [List.mem_singleton.mp m, hI] at q; cases q) (he b o q)
  have hD1 : s₁.heap.get? D = none := by
    cases q : s₁.heap.get? D with
    | none => rfl
    | some o => have := he _ _ q; rw [hD] at this; cases this
  rw [hys] at hpl
  have e3 : vs.filter (fun _ => true) = vs := List.filter_eq_self.mpr fun _ _ => rfl
  rw [e3] at hpair
  exact ⟨v₁, _, rel_comp R₁ e2 hD1 hpl, hfin D vs ys.toList hlen hP hpair⟩

noncomputable def chr1 (n : Nat) : Str := ⟨#[n]⟩
theorem glued_chars : ∀ cs : List Nat, Txt.join (Str.ofString "") (cs.map chr1) = ⟨cs.toArray⟩ := by
  intro cs
  unfold Txt.join
  have key : ∀ (cs : List Nat) (acc : Array Nat), (cs.map chr1).foldl (fun acc p => acc ++ (Str.ofString "").cps ++ p.cps) acc = acc ++ cs.toArray := by
    intro cs
    induction cs with
    | nil => intro acc; simp
    | cons c r ih =>
      intro acc
      rw [List.map_cons, List.foldl_cons, ih]
      have e : (Str.ofString "").cps = #[] := by decide +kernel
      rw [e]
      simp [chr1]
  cases cs with
  | nil => decide +kernel
  | cons c r =>
    unfold Builtin.Str.glued
    simp only [List.map_cons, List.drop_succ_cons, List.drop_zero, List.headD_cons]
    rw [key]
    simp [chr1]
theorem joinOk_chars : ∀ cs : List Nat, cs.length ≤ 1000 → JoinOk (Str.ofString "") (cs.map chr1) = true := by
  intro cs h
  unfold JoinOk
  have key : ∀ (cs : List Nat) (k : Nat), (cs.map chr1).foldl (fun (a : Nat) (x : Str) => a + x.length + (Str.ofString "").length) k = k + cs.length := by
    intro cs
    induction cs with
    | nil => intro k; rfl
    | cons c r ih =>
      intro k
      rw [List.map_cons, List.foldl_cons, ih]
      have e : (Str.ofString "").length = 0 := by decide +kernel
      have e2 : (chr1 c).length = 1 := rfl
      rw [e, e2, List.length_cons]; omega
  rw [List.foldl_toArray, key]
  unfold Builtin.Str.tooLong
  rw [decide_eq_false (by rw [sizeLine_eq]; omega)]; rfl
theorem strs_of : ∀ {ys : List Value} {xs : List Str}, Paired IsStr ys xs → ∃ l : List (Str × Tok), ys = strValues l ∧ l.map (·.1) = xs
  | _, _, .nil => ⟨[], rfl, rfl⟩
  | _, _, .cons ⟨t, e⟩ r => by
    obtain ⟨l, h1, h2⟩ := strs_of r
    exact ⟨(_, t) :: l, by rw [e, h1]; rfl, by rw [List.map_cons, h2]⟩
theorem AW.joinC {c : Cx} {vals : Vals} {news : Led} {a : Addr} {ys : List Value} {cs : List Nat} {t : Tok} {Φ : Value → Vals → Led → Prop} (hm : HasL c news (a, .list ys)) (hp : Paired IsStr ys (cs.map chr1)) (hsz : cs.length ≤ 1000)
    (h : ∀ t, Φ (.str ⟨cs.toArray⟩ t) vals news) : AW c (call (.builtin "str.join") [.str (Str.ofString "") t, .ref a]) vals news Φ := by
  intro g s R
  obtain ⟨o, ho, ⟨n, rfl⟩, hz⟩ := R.has hm
  obtain ⟨l, h1, h2⟩ := strs_of hp
  refine SC.join (l := l) (by rw [← h1]; exact ⟨_, ho, rfl, n, rfl⟩) h2 (joinOk_chars cs hsz) fun t' k => ?_
  rw [glued_chars]
  exact ⟨_, _, R.tok _, h _⟩
theorem slotJoin : Slot "str" (Str.ofString "join") "str.join" := F.slot_str_join
theorem slotIndex : Slot "str" (Str.ofString "index") "str.index" := F.slot_str_index
theorem slotGet : Slot "dict" (Str.ofString "get") "dict.get" := F.slot_dict_get
end Mine
end

section
namespace Mine
open PySem PySem.W PyProof.Rows PySem.Calls

theorem mul_ok {a b : Int} (h : b.natAbs < 2 ^ 63) : IntMulOk a b := by
  refine IntMulOk.of_right ?_
  unfold Builtin.Int.intBits
  split
  · exact Nat.zero_le _
  · rename_i hz
    have h0 : b.natAbs ≠ 0 := fun e => hz (by simp; omega)
    have := (Nat.log2_lt (k := 63) h0).mpr h
    omega
theorem slice_ab (x : Str) (l u : Option Int) (a b : Nat) (h : Builtin.Str.strSliceIndices l u 1 x.length = (List.range (b - a)).map (fun k => a + k)) (hab : a ≤ b) (hb : b ≤ x.length) :
    Txt.slice x l u = ⟨((x.cps.toList.drop a).take (b - a)).toArray⟩ := by
  unfold Txt.slice
  rw [h]
  have hl : x.cps.toList.length = x.length := by simp [Str.length]
  split
  · rename_i hc
    simp at hc
    have : a = 0 ∧ b = x.length := by omega
    obtain ⟨rfl, rfl⟩ := this
    rw [List.drop_zero, Nat.sub_zero, ← hl, List.take_length]
  · have := StrLaws.picks x.cps.toList (b - a) a (by omega)
    have e : (fun (i : Nat) => x.cps[i]?) = fun (i : Nat) => x.cps.toList[i]? := by funext i; simp
    rw [e, this]
theorem slice_take (x : Str) (k : Nat) (hk : k ≤ x.length) : Txt.slice x none (some (k : Int)) = ⟨(x.cps.toList.take k).toArray⟩ := by
  have h := slice_ab x none (some (k : Int)) 0 k ?_ (Nat.zero_le _) hk
  · simpa using h
  · have h1 := StrLaws.strSliceIndices_plain (a := 0) (b := k) (len := x.length) (Nat.zero_le _) hk
    have e : Builtin.Str.strSliceIndices none (some (k : Int)) 1 x.length = Builtin.Str.strSliceIndices (some ((0 : Nat) : Int)) (some (k : Int)) 1 x.length := by
      simp only [Builtin.Str.strSliceIndices]
      have : max (0 : Int) (min 0 (x.length : Int)) = 0 := by omega
      simp [this]
    rw [e]; exact h1
theorem slice_drop (x : Str) (k : Nat) (hk : k ≤ x.length) : Txt.slice x (some (k : Int)) none = ⟨(x.cps.toList.drop k).toArray⟩ := by
  have h := slice_ab x (some (k : Int)) none k x.length ?_ hk (Nat.le_refl _)
  · rw [h]
    have hl : x.cps.toList.length = x.length := by simp [Str.length]
    rw [List.take_of_length_le (by rw [List.length_drop]; omega)]
  · have h1 := StrLaws.strSliceIndices_plain (a := k) (b := x.length) (len := x.length) hk (Nat.le_refl _)
    have e : Builtin.Str.strSliceIndices (some (k : Int)) none 1 x.length = Builtin.Str.strSliceIndices (some (k : Int)) (some ((x.length : Nat) : Int)) 1 x.length := by
      simp only [Builtin.Str.strSliceIndices]
      have e2 : ¬ ((x.length : Int) < 0) := by omega
      simp [e2]
    rw [e]; exact h1

noncomputable abbrev sliceObj (l u : Value) : Obj := { cls := .type "slice", data := .fields #[l, u, .none] }

section
variable {c : Cx} {vals : Vals} {news : Led}
theorem AW.mulS {a b : Int} {t u : Tok} {Φ : Value → Vals → Led → Prop} (hb : b.natAbs < 2 ^ 63) (h : ∀ t, Φ (.int (a * b) t) vals news) : AW c (binaryOp .Mult (.int a t) (.int b u)) vals news Φ := AW.mulI (mul_ok hb) h
theorem AW.ordC {k : Nat} {t : Tok} {Φ : Value → Vals → Led → Prop} (h : ∀ t, Φ (.int k t) vals news) : AW c (call (.builtin "ord") [.str ⟨#[k]⟩ t]) vals news Φ := fun _ _ R => P.ord_of_char ⟨_, _, R.tok _, h _⟩
theorem AW.chrI {i : Int} {t : Tok} {Φ : Value → Vals → Led → Prop} (h0 : 0 ≤ i) (h1 : i ≤ 1114111) (h : ∀ t, Φ (.str ⟨#[i.toNat]⟩ t) vals news) : AW c (call (.builtin "chr") [.int i t]) vals news Φ := fun _ _ R => PyProof.Rows.chr_of_range h0 h1 ⟨_, _, R.tok _, h _⟩
theorem AW.absI {a : Int} {t : Tok} {Φ : Value → Vals → Led → Prop} (h : ∀ t, Φ (.int (if a < 0 then -a else a) t) vals news) : AW c (call (.builtin "abs") [.int a t]) vals news Φ := fun _ _ R => PyProof.Rows.call_abs_int fun _ _ => ⟨_, _, R.tok _, h _⟩
theorem AW.intI {a : Int} {t : Tok} {Φ : Value → Vals → Led → Prop} (h : Φ (.int a t) vals news) : AW c (call (.type "int") [.int a t]) vals news Φ := fun _ _ R => PySem.call_int_int ⟨_, _, R, h⟩
theorem AW.divmodI {a b : Int} {t u : Tok} {Φ : Value → Vals → Led → Prop} (G : Ok c) (hb : b ≠ 0) (hs : b.natAbs < 1073741824) (h : ∀ r t1 t2, Φ (.ref r) vals ((r, .tup [.int (a.fdiv b) t1, .int (a.fmod b) t2]) :: news)) :
    AW c (call (.builtin "divmod") [.int a t, .int b u]) vals news Φ := by
  intro g s R
  refine PyProof.Rows.divmod_int hb ⟨vals, _, ?_, h _ s.toks (s.toks + 1)⟩ (Or.inl (PyProof.noPylong_small hs))
  exact (R.new G.top _ (.tup [.int (a.fdiv b) s.toks, .int (a.fmod b) (s.toks + 1)]) rfl ⟨0, rfl⟩).tok _

theorem AW.assignT {elts : List Expr} {k : Nat} {tpos pos : Pos} {value : Expr} {Φ : Flow → Vals → Led → Prop} (hs : swapsWithSole [.Tuple elts k tpos] value pos.line c.env = Pure.pure false) (hw : swappedStores [.Tuple elts k tpos] value c.env = Pure.pure none)
    (h : AW c (eval value c.env) vals news fun a v n => AW c (assign (.Tuple elts k tpos) c.env a) v n fun _ => Φ .next) : AW c (exec (.Assign [.Tuple elts k tpos] value pos) c.env) vals news Φ :=
  fun g s R => Assign_Tuple (AW.then h R fun _ _ _ _ r p => p g _ r) hs hw
theorem AW.unpack2 {e₁ e₂ : Expr} {k : Nat} {pos : Pos} {a : Addr} {x y : Value} {Φ : Unit → Vals → Led → Prop} (G : Ok c) (hm : HasL c news (a, .tup [x, y]))
    (hE : (assignEach [e₁, e₂] c.env).map (·.2) = [assign e₁ c.env, assign e₂ c.env]) (hl : (assignEach [e₁, e₂] c.env).length = 2) (hstar : (assignEach [e₁, e₂] c.env).findIdx? (·.1) = none)
    (h : AW c (assign e₁ c.env x) vals news fun _ v n => AW c (assign e₂ c.env y) v n Φ) : AW c (assign (.Tuple [e₁, e₂] k pos) c.env (.ref a)) vals news Φ := by
  intro g s R
  obtain ⟨o, ho, ⟨n, rfl⟩, _⟩ := R.has hm
  refine wpAny_assign_Tuple (items := #[x, y]) G.han ⟨_, ho, rfl, n, rfl⟩ hl hstar fun h' he => ?_
  have R' : Rel c g vals news { s with heap := h' } := R.grow (tk := s.toks) fun b o q => he b o (Nat.ne_of_lt (Heap.lt_size q)) q
  rw [hE]
  exact wpAny_assignInOrder_more (AW.then h R' fun _ _ _ _ r p => wpAny_assignInOrder_more (wpAny_mono (p g _ r) (fun _ _ q => wpAny_assignInOrder_none q) fun _ _ e => e))

theorem AW.sliceE {lo up : Option Expr} {p : Pos} {Φ : Value → Vals → Led → Prop} (G : Ok c)
    (h : AW c (evalPart lo c.env) vals news fun l v n => AW c (evalPart up c.env) v n fun u v n => ∀ a, Φ (.ref a) v ((a, .raw (sliceObj l u)) :: n)) : AW c (eval (.Slice lo up none p) c.env) vals news Φ := by
  intro g s R
  refine wpAny_Slice (AW.then h R fun l _ _ _ r p => AW.then p r fun u s' v n r p => ?_)
  refine wpAny_evalPart_none ⟨v, _, r.new G.top _ (.raw (sliceObj l u)) rfl rfl, p _⟩
theorem AW.partN {Φ : Value → Vals → Led → Prop} (h : Φ .none vals news) : AW c (evalPart none c.env) vals news Φ := fun _ _ R => wpAny_evalPart_none ⟨_, _, R, h⟩
theorem AW.partS {e : Expr} {Φ : Value → Vals → Led → Prop} (h : AW c (eval e c.env) vals news Φ) : AW c (evalPart (some e) c.env) vals news Φ := fun g s R => wpAny_evalPart_some (h g s R)
theorem AW.getTake {x : Str} {t u : Tok} {a : Addr} {k : Nat} {Φ : Value → Vals → Led → Prop} (hm : HasL c news (a, .raw (sliceObj .none (.int k u)))) (hk : k ≤ x.length) (hz : x.length ≤ sizeLine) (h : ∀ t, Φ (.str ⟨(x.cps.toList.take k).toArray⟩ t) vals news) :
    AW c (getItem (.str x t) (.ref a)) vals news Φ := by
  intro g s R
  obtain ⟨o, ho, rfl, _⟩ := R.has hm
  have e := slice_take x k hk
  refine wpAny_getItem_str_slice (l := none) (u := some ((k : Int), u)) (st := none) ⟨_, ho, rfl, rfl⟩ rfl (post_val_or_str ⟨Nat.le_trans (Txt.slice_le x none (some (k : Int))) hz, fun t' k' => ?_⟩)
  show ∃ vals' news', Rel c g vals' news' _ ∧ Φ (.str (Txt.slice x none (some (k : Int))) t') vals' news'
  rw [e]; exact ⟨_, _, R.tok _, h _⟩
theorem AW.getDrop {x : Str} {t u : Tok} {a : Addr} {k : Nat} {Φ : Value → Vals → Led → Prop} (hm : HasL c news (a, .raw (sliceObj (.int k u) .none))) (hk : k ≤ x.length) (hz : x.length ≤ sizeLine) (h : ∀ t, Φ (.str ⟨(x.cps.toList.drop k).toArray⟩ t) vals news) :
    AW c (getItem (.str x t) (.ref a)) vals news Φ := by
  intro g s R
  obtain ⟨o, ho, rfl, _⟩ := R.has hm
  have e := slice_drop x k hk
  refine wpAny_getItem_str_slice (l := some ((k : Int), u)) (u := none) (st := none) ⟨_, ho, rfl, rfl⟩ rfl (post_val_or_str ⟨Nat.le_trans (Txt.slice_le x (some (k : Int)) none) hz, fun t' k' => ?_⟩)
  show ∃ vals' news', Rel c g vals' news' _ ∧ Φ (.str (Txt.slice x (some (k : Int)) none) t') vals' news'
  rw [e]; exact ⟨_, _, R.tok _, h _⟩
theorem AW.getLS {l a : Addr} {its : List Value} {k : Nat} {u : Tok} {Φ : Value → Vals → Led → Prop} (G : Ok c) (hl : HasL c news (l, .list its)) (hm : HasL c news (a, .raw (sliceObj .none (.int k u)))) (hz : its.length ≤ sizeLine) (h : ∀ r, Φ (.ref r) vals ((r, .list (its.take k)) :: news)) :
    AW c (getItem (.ref l) (.ref a)) vals news Φ := by
  intro g s R
  obtain ⟨o, ho, ⟨n, rfl⟩, _⟩ := R.has hl
  obtain ⟨o', ho', rfl, _⟩ := R.has hm
  refine wpAny_getItem_list_slice ⟨_, ho, rfl, n, rfl⟩ ⟨_, ho', rfl, rfl⟩ .none (.int _ _) .none (by simp) ⟨vals, _, R.new G.top _ (.list (its.take k)) rfl ⟨0, ?_⟩, h _⟩ (by rw [List.size_toArray]; exact hz)
  rw [slicePick_plain]
  have e : clipAt its.toArray.size (k : Int) = min k its.length := by rw [clipAt_nat]; simp
  simp only [Option.elim_none, Option.elim_some, e]
  simp

/-! bytes -/
theorem AW.cBytes {x : List UInt8} {k : Nat} {pos : Pos} {Φ : Value → Vals → Led → Prop} (h : ∀ t, Φ (.bytes x.toArray t) vals news) : AW c (eval (.Constant (.bytes x) k pos) c.env) vals news Φ := fun _ _ R => PySem.W.Constant_bytes ⟨_, _, R.tok _, h _⟩
theorem AW.addBy {x y : Array UInt8} {t u : Tok} {Φ : Value → Vals → Led → Prop} (hsz : x.size + y.size ≤ 16777216) (h : ∀ t, Φ (.bytes (x ++ y) t) vals news) : AW c (binaryOp .Add (.bytes x t) (.bytes y u)) vals news Φ := fun _ _ R => KBy.add_bytes hsz fun _ _ => ⟨_, _, R.tok _, h _⟩
theorem AW.tailB {value slice : Expr} {x : Array UInt8} {t : Tok} {i : Value} {ops : List Value} {Φ : Value → Vals → Led → Prop} (hs : subscripted slice false (.bytes x t) i = operate ops (getItem (.bytes x t) i)) (h : AW c (getItem (.bytes x t) i) vals news Φ) :
    AW c (subscriptTail value slice (.bytes x t) i) vals news Φ := by
  intro g s R
  exact tail_any (T := "bytes") (typeIs_bytes s x t) FB.slot_bytes_getitem.lookup (h g s R) hs
theorem AW.getBy {x : Array UInt8} {t u1 u2 : Tok} {a : Addr} {i j : Int} {Φ : Value → Vals → Led → Prop} (hm : HasL c news (a, .raw (sliceObj (.int i u1) (.int j u2)))) (hz : x.size ≤ 16777216) (h : ∀ t, Φ (.bytes (KBy.picked x (some i) (some j)) t) vals news) :
    AW c (getItem (.bytes x t) (.ref a)) vals news Φ := by
  intro g s R
  obtain ⟨o, ho, rfl, _⟩ := R.has hm
  refine getItem_meets (typeIs_bytes _ _ _) (by decide) FB.slot_bytes_getitem FB.entry_bytes_getitem (FB.args_bytes_getitem_2 _ _) (KBc.meets_slice2 x t a (.int i u1) (.int j u2)) ⟨⟨_, ho, rfl, rfl⟩, Nat.le_trans (KBc.size_picked_le x _ _) (by rw [sizeLine_eq]; exact hz), fun t' k => ⟨_, _, R.tok _, h _⟩⟩
end
theorem feeds_bytes {c : Cx} (G : Ok c) {y : Array UInt8} {t : Tok} : Feeds c (.bytes y t) [] y.size (fun i v => ∃ k u, y[i]? = some k ∧ v = .int (k.toNat : Int) u) := by
  intro s Q E _ hQ
  refine KBw.pyIter_bytes (hQ _ [s.heap.objs.size] (fun i h => KBw.IsBytesIter h s.heap.objs.size y t i) _ s.toks (Ext.push _ _) (get_none_of_size _ _ (Nat.le_refl _)) ?_ ⟨_, Heap.get?_push_size _ rfl, rfl, rfl⟩ ?_)
  · intro b hb
    rw [Heap.size_push, List.mem_singleton.mp hb]; exact Nat.lt_succ_self _
  · exact KBw.walks G.han _ _ _

/-- what is no longer wanted may be dropped at an end -/
theorem AW.weak {α : Type} {c : Cx} {vals : Vals} {news : Led} {t : Sem α} {Φ : α → Vals → Led → Prop} (h : AW c t vals news fun a v n => ∃ n', n'.Sublist n ∧ Φ a v n') : AW c t vals news Φ :=
  fun g s R => wpAny_mono (h g s R) (fun a s' ⟨v, n, r, n', hs, p⟩ => ⟨v, n', r.drop hs, p⟩) fun _ _ e => e
end Mine
end

section
namespace Mine
open PySem PySem.W PyProof.Rows PySem.Calls

theorem at_chr {x : Str} {k i : Nat} : StrLaws.At x (chr1 k) x.length i ↔ x.cps[i]? = some k := by
  have h1 : (chr1 k).length = 1 := rfl
  unfold StrLaws.At Builtin.Str.subAt
  rw [h1]
  constructor
  · rintro ⟨h, e⟩
    have hi : i < x.cps.size := h
    have e2 := eq_of_beq e
    have e3 : (x.cps.extract i (i + 1))[0]? = some k := by rw [e2]; rfl
    rw [Array.getElem?_extract] at e3
    have : 0 < min (i + 1) x.cps.size - i := by omega
    rw [if_pos this] at e3
    simpa using e3
  · intro e
    have hi : i < x.cps.size := by
      rcases Nat.lt_or_ge i x.cps.size with q | q
      · exact q
      · rw [Array.getElem?_eq_none q] at e; cases e
    refine ⟨hi, beq_iff_eq.mpr ?_⟩
    apply Array.ext
    · simp [chr1]; omega
    · intro j h1 h2
      have hj : j = 0 := by have : j < 1 := h2
                            omega
      subst hj
      rw [Array.getElem_extract]
      rw [Array.getElem?_eq_getElem hi] at e
      have e' : x.cps[i] = k := by simpa using e
      simp [chr1, e']
theorem occ_mem {x : Str} {k : Nat} : (Builtin.Str.occurrences x (chr1 k) 0 x.length 1).isEmpty = !decide (k ∈ x.cps.toList) := by
  rcases StrLaws.occ_head x (chr1 k) 1 (Nat.le_refl _) with ⟨h, hn⟩ | ⟨i, r, h, ha, _⟩
  · rw [h]
    have : k ∉ x.cps.toList := fun m => by
      obtain ⟨i, hi, e⟩ := List.mem_iff_getElem.mp m
      exact hn i (at_chr.mpr (by rw [← e]; simp at hi; simp [hi]))
    simp [this]
  · rw [h]
    have : k ∈ x.cps.toList := by
      have e := at_chr.mp ha
      have e' : x.cps.toList[i]? = some k := by simpa using e
      exact List.mem_of_getElem? e'
    simp [this]
theorem occ_first {x : Str} {k i : Nat} (h : x.cps[i]? = some k) (hn : ∀ j < i, x.cps[j]? ≠ some k) : ∃ r, Builtin.Str.occurrences x (chr1 k) 0 x.length 1 = i :: r := by
  rcases StrLaws.occ_head x (chr1 k) 1 (Nat.le_refl _) with ⟨_, hno⟩ | ⟨j, r, e, ha, hb⟩
  · exact absurd (at_chr.mpr h) (hno i)
  · have hij : j = i := by
      rcases Nat.lt_trichotomy j i with q | q | q
      · exact absurd (at_chr.mp ha) (hn j q)
      · exact q
      · exact absurd (at_chr.mpr h) (hb i q)
    exact ⟨r, hij ▸ e⟩
section
variable {c : Cx} {vals : Vals} {news : Led} {Φ : Value → Vals → Led → Prop}
theorem AW.notInS {x : Str} {k : Nat} {t u : Tok} (h : Φ (.bool (!decide (k ∈ x.cps.toList))) vals news) : AW c (compareOp .NotIn (.str (chr1 k) u) (.str x t)) vals news Φ :=
  fun _ _ R => PyProof.Rows.notIn_str (by rw [occ_mem, Bool.not_not]; exact ⟨_, _, R, h⟩)
theorem AW.indexS {x : Str} {k i : Nat} {t u : Tok} (hi : x.cps[i]? = some k) (hn : ∀ j < i, x.cps[j]? ≠ some k) (h : ∀ t, Φ (.int i t) vals news) : AW c (call (.builtin "str.index") [.str x t, .str (chr1 k) u]) vals news Φ := by
  intro g s R
  obtain ⟨r, e⟩ := occ_first hi hn
  exact SC.index e ⟨_, _, R.tok _, h _⟩
theorem rep_cps (k : Nat) : ∀ (n : Nat) (acc : Array Nat), (List.replicate n (chr1 k).cps).foldl (· ++ ·) acc = acc ++ (List.replicate n k).toArray := by
  intro n
  induction n with
  | zero => intro acc; simp
  | succ n ih =>
    intro acc
    rw [List.replicate_succ, List.foldl_cons, ih]
    apply Array.ext'
    simp [chr1, List.replicate_succ]
theorem AW.mulStr {k n : Nat} {t u : Tok} (h1 : 1 ≤ n) (hn : n ≤ 100) (h : ∀ t, Φ (.str ⟨(List.replicate n k).toArray⟩ t) vals news) : AW c (binaryOp .Mult (.str (chr1 k) t) (.int n u)) vals news Φ := by
  intro g s R
  have e1 : (chr1 k).length = 1 := rfl
  refine P.mul_str ?_ ?_ ?_ ?_
  · rw [decide_eq_false (by omega), decide_eq_false (by omega)]; rfl
  · intro _ _ q
    rw [e1] at q
    have : (1 : Int) ≤ (2 ^ 63 - 1) / (n : Int) := by
      rw [Int.le_ediv_iff_mul_le (by omega)]; omega
    omega
  · intro _ _
    unfold Builtin.Str.tooLong
    rw [e1, decide_eq_false (by rw [sizeLine_eq]; omega)]
  · rw [if_neg (by omega)]
    split
    · rename_i hc
      rw [e1] at hc
      have : n = 1 := by
        have : (n : Int) = 1 := by simpa using hc
        omega
      subst this
      exact ⟨_, _, R, h t⟩
    · rw [show ((n : Int)).toNat = n from rfl, rep_cps]
      simp only [Array.empty_append]
      refine ⟨?_, ?_⟩
      · rw [sizeLine_eq]; simp [Str.length]; omega
      · exact ⟨_, _, R.tok _, h _⟩
theorem AW.getDef {a : Addr} {kvs : List (Str × Value)} {k : Str} {t : Tok} {dflt : Value} (hm : HasL c news (a, .dict kvs)) (h : Φ ((valueAt kvs k).getD dflt) vals news) : AW c (call (.builtin "dict.get") [.ref a, .str k t, dflt]) vals news Φ := by
  intro g s R
  obtain ⟨o, ho, hd, hz⟩ := R.has hm
  have hD : s.heap.DictOf (strKind PySem.Challenge.rw_wj0025_01.row.prog c.w) a kvs := Heap.dictOf_iff.mpr ⟨o, ho, hd⟩
  exact call_meetsIn PySem.F.slot_dict_get hD.typeIs PySem.F.entry_dict_get (PySem.F.args_dict_get_3 _ _ _) (meets_dict_get_default (strKind PySem.Challenge.rw_wj0025_01.row.prog c.w) a (strKind_is _ _ k t) hz dflt) ⟨_, hD.mapOf, _, _, R.tok _, h⟩
theorem AW.dict1 {ke ve : Expr} {pos : Pos} (G : Ok c) (hsh : (evalEachOpt [some ke] c.env).zip ((evalEach [ve] c.env).map fun v => do let x ← v; standAt pos; Pure.pure x) = [(some (eval ke c.env), (do let x ← eval ve c.env; standAt pos; Pure.pure x))])
    (h : ∀ d, AW c (eval ke c.env) vals ((d, .dict []) :: news) fun kv v n => AW c (eval ve c.env) v n fun x v' n' => ∃ k t, kv = .str k t ∧ n' = (d, .dict []) :: news ∧ Φ (.ref d) v' ((d, .dict [(k, x)]) :: news)) :
    AW c (eval (.Dict [some ke] [ve] pos) c.env) vals news Φ := by
  intro g s R
  have R₀ : Rel c g vals ((s.heap.objs.size, .dict []) :: news) { s with heap := s.heap.push { cls := .type "dict", data := .dict #[] } } :=
    R.new G.top _ (.dict []) rfl ⟨#[], 0, ⟨rfl, rfl, rfl⟩, rfl, (fun e he => by simp at he), .nil, by simp⟩
  refine wpAny_Dict_pairs (knd := strKind PySem.Challenge.rw_wj0025_01.row.prog c.w) (pairs := [(eval ke c.env, (do let x ← eval ve c.env; standAt pos; Pure.pure x))]) hsh (by simp) (by simp) (evalPairs_cons (wpAny_mono (h _ g _ R₀) (fun kv s₁ ⟨v, n, R₁, q⟩ => wpAny_bind (wpAny_mono (q g s₁ R₁) (fun x s₂ ⟨v', n', R₂, k, t, e1, e2, hΦ⟩ => ?_) fun _ _ e => e.elim)) fun _ _ e => e.elim))
  refine wpAny_bind (wpAny_standAt (wpAny_pure (evalPairs_nil ?_)))
  subst e1 e2
  obtain ⟨o, ho, hd, hz⟩ := R₂.led _ List.mem_cons_self
  have hD : s₂.heap.DictOf (strKind PySem.Challenge.rw_wj0025_01.row.prog c.w) s.heap.objs.size [] := Heap.dictOf_iff.mpr ⟨o, ho, hd⟩
  refine ⟨[(k, x)], ⟨strKind_is _ _ k t, rfl, trivial⟩, hD, fun h' hD' hs => ?_⟩
  obtain ⟨o', ho', hd'⟩ := Heap.dictOf_iff.mp hD'
  exact ⟨v', _, R₂.upd (mo := .dict [(k, x)]) .here hs ⟨o', ho', hd', hz⟩, hΦ⟩
end
end Mine
end

section
namespace Mine
open PySem PySem.W PyProof.Rows PySem.Calls

/-- the entries of an object's own dict -/
noncomputable def att (P : Params) (l : List (Str × Tok × Value)) : List DictEntry := l.map fun e => ⟨PyData.keyHash P e.1, .str e.1 e.2.1, e.2.2⟩
theorem isStr_str (name k : Str) (t : Tok) : (Value.str k t).isStr name = decide (k = name) := by
  rw [isStr_of]; unfold Value.isStrOf; rfl
theorem att_get (P : Params) (name : Str) : ∀ l : List (Str × Tok × Value), getL name (att P l) = some ((l.find? fun e => decide (e.1 = name)).map (·.2.2)) := by
  intro l
  unfold getL att
  rw [List.find?_map]
  have e1 : ((fun x : DictEntry => x.key.isStr name) ∘ fun e : Str × Tok × Value => (⟨PyData.keyHash P e.1, .str e.1 e.2.1, e.2.2⟩ : DictEntry)) = fun e => decide (e.1 = name) := by
    funext e; exact isStr_str name e.1 e.2.1
  rw [e1]
  cases l.find? fun e => decide (e.1 = name) with
  | some e => rfl
  | none =>
    have : (l.map fun e : Str × Tok × Value => (⟨PyData.keyHash P e.1, .str e.1 e.2.1, e.2.2⟩ : DictEntry)).any (·.refKey) = false := by
      rw [List.any_map]; exact List.any_eq_false.mpr fun e _ => by simp [DictEntry.refKey]
    rw [Option.map_none]
    show (if _ then _ else _) = _
    rw [this]; rfl
theorem att_put (P : Params) (name : Str) (t : Tok) (v : Value) : ∀ l : List (Str × Tok × Value), l.all (fun e => decide (e.1 ≠ name)) = true → putL name (PyData.keyHash P name) (.str name t) v (att P l) = att P (l ++ [(name, t, v)])
  | [], _ => rfl
  | e :: l, h => by
    rw [List.all_cons, Bool.and_eq_true] at h
    have h1 : e.1 ≠ name := of_decide_eq_true h.1
    show (if (Value.str e.1 e.2.1).isStr name then _ else _) = _
    rw [isStr_str, decide_eq_false h1, if_neg Bool.false_ne_true]
    have := att_put P name t v l h.2
    show _ :: putL name _ _ _ (att P l) = _
    rw [this]; rfl

section
variable {c : Cx} {vals : Vals} {news : Led}
theorem AW.attrE {value : Expr} {attr : Str} {pos : Pos} {Φ : Value → Vals → Led → Prop}
    (he : eval (.Attribute value attr pos) c.env = (do
      let o ← eval value c.env
      standAt pos.atName
      let r ← holding [o] (getAttr o attr true)
      letTemporaryGo value o r
      Pure.pure r))
    (h : AW c (eval value c.env) vals news fun o v n => AW c (getAttr o attr true) v n Φ) : AW c (eval (.Attribute value attr pos) c.env) vals news Φ :=
  fun g s R => Attribute_any_ (AW.then h R fun _ _ _ _ r p => p g _ r) he
theorem AW.clsVal {C : Addr} {mc v : Value} {name : Str} {expr : Bool} {Φ : Value → Vals → Led → Prop} (G : Ok c) (hr : readsIn (KF c.w.params) C mc = true) (e : findCls (KF c.w.params) (.ref C) mc name = some (.val v)) (hh : handedIn v = true) (h : Φ v vals news) :
    AW c (getAttr (.ref C) name expr) vals news Φ :=
  fun g s R => cls_value (G.top.ext (R.base.trans R.keep)).k hr e hh ⟨_, _, R.tok _, h⟩

structure ClsOK (P : Params) (C : Addr) (name : Str) : Prop where
  get : plainGet (KF P) C name = true
  dict : hasDictIn (KF P) C = true
  none : findIn (KF P) (.ref C) name = some none

theorem instAt {h : Heap} {w : World} {x dx C : Addr} {l : List (Str × Tok × Value)} {n : Nat} (h1 : Has w h (x, .raw (instObj C dx))) (h2 : Has w h (dx, .raw (dictOf (att w.params l) n))) : InstAt h x (instObj C dx) C (some (dictOf (att w.params l) n)) := by
  obtain ⟨o, ho, e, _⟩ := h1
  obtain ⟨o', ho', e', _⟩ := h2
  have e1 : o = instObj C dx := e
  have e2 : o' = dictOf (att w.params l) n := e'
  subst e1 e2
  exact ⟨ho, rfl, rfl, ho'⟩
theorem AW.instGet {C x dx : Addr} {l : List (Str × Tok × Value)} {n : Nat} {v : Value} {name : Str} {expr : Bool} {Φ : Value → Vals → Led → Prop} (G : Ok c) (h1 : HasL c news (x, .raw (instObj C dx))) (h2 : HasL c news (dx, .raw (dictOf (att c.w.params l) n)))
    (K : ClsOK c.w.params C name) (hv : (l.find? fun e => decide (e.1 = name)).map (·.2.2) = some v) (hh : handedIn v = true) (h : Φ v vals news) : AW c (getAttr (.ref x) name expr) vals news Φ :=
  fun g s R => get_value (G.top.ext (R.base.trans R.keep)).k (instAt (R.has h1) (R.has h2)) (plainGet_of K.get).1 (findObj_own K.dict K.none rfl (by rw [lookIn_dict, att_get, hv])) hh ⟨_, _, R.tok _, h⟩

theorem osaA {w : World} {A : Around} {s : Shared} {C x dx : Addr} {l : List (Str × Tok × Value)} {n : Nat} {v : Value} {name : Str} {tk : Tok} {R : Result → Shared → Prop} (X : (KF w.params).In s.heap) (I : InstAt s.heap x (instObj C dx) C (some (dictOf (att w.params l) n)))
    (hp : plainOver (KF w.params) C = true) (ht : takerIn (KF w.params) C name = some none) (hh : hasDictIn (KF w.params) C = true)
    (hl : l.all (fun e => decide (e.1 ≠ name)) = true) (hz : l.length ≤ 100) (h : ∀ h' t tk', Heap.SameBut dx s.heap h' → h'.get? dx = some (dictOf (att w.params (l ++ [(name, t, v)])) (n + 1)) → R (.ok (.ret .none)) { s with heap := h', toks := tk' }) :
    codeAny (MD w) A (.call (.builtin "object.__setattr__") ⟨[.ref x, .str name tk, v], []⟩) R s := by
  refine osa_open X I hp ht fun b => ?_
  obtain ⟨cd, hc, hd'⟩ := any_some hh
  obtain ⟨hx, hcl, hn, D⟩ := I
  have D : s.heap.get? dx = some (dictOf (att w.params l) n) := D
  have hnone : l.find? (fun e => decide (e.1 = name)) = none := by
    rw [List.find?_eq_none]
    intro e he q
    exact (of_decide_eq_true (List.all_eq_true.mp hl e he)) (of_decide_eq_true q)
  have hany : (att w.params l).any (fun e => e.key.isStr name) = false := by
    unfold att
    rw [List.any_map]
    refine List.any_eq_false.mpr fun e he q => ?_
    have q' : (Value.str e.1 e.2.1).isStr name = true := q
    rw [isStr_str] at q'
    exact (of_decide_eq_true (List.all_eq_true.mp hl e he)) (of_decide_eq_true q')
  have hkey : (att w.params l).any (·.refKey) = false := by
    unfold att
    rw [List.any_map]
    exact List.any_eq_false.mpr fun e _ => by simp [DictEntry.refKey]
  have cnd : (!(att w.params l).toArray.any (·.key.isStr name) && (att w.params l).toArray.any (·.refKey)) = false := by
    rw [← Array.any_toList, ← Array.any_toList]
    show (!(att w.params l).any _ && (att w.params l).any _) = false
    rw [hkey, Bool.and_false]
  have hput : ∀ t, Obj.putName name (PyData.keyHash w.params name) (.str name t) v (dictOf (att w.params l) n) = dictOf (att w.params (l ++ [(name, t, v)])) (n + 1) := fun t => by
    rw [putName_dict, att_put _ _ _ _ _ hl]
    unfold putN
    rw [hany, if_neg Bool.false_ne_true]
  refine wpAny_bind (wpAny_pure (wpAny_bind (wpAny_bind (wpAny_loadPart hx (wpAny_bind ((looks_clsIn X hc).here ?_))))))
  rw [hd']
  refine wpAny_pure (a := some dx) (wpAny_bind (wpAny_pure (wpAny_bind ?_)))
  unfold nsSet
  refine wpAny_bind (wpAny_bind (wpAny_askSetting (wpAny_pure (wpAny_bind (wpAny_mkText (wpAny_bind (wpAny_loadPart D ?_)))))))
  dsimp only
  rw [aRefKeyMayBeTheName_at, cnd]
  have D' : (s.heap.update dx (Obj.putName name (PyData.keyHash w.params name) (.str name s.toks) v)).get? dx = some (dictOf (att w.params (l ++ [(name, s.toks, v)])) (n + 1)) := by
    rw [← hput]
    exact Heap.get?_update_self _ D (by rw [hput]; rfl)
  refine wpAny_updatePart D ?_
  refine wpAny_bind (wpAny_lookBehind D' (pastItsLine_dict (by simp [att, sizeLine_eq]; omega)) ?_)
  exact wpAny_pure (h _ _ _ ⟨Heap.size_update _ _ _, fun b hb => Heap.get?_update_ne _ _ _ _ hb⟩ D')
theorem AW.setAttr {C x dx : Addr} {l : List (Str × Tok × Value)} {n : Nat} {v : Value} {name : Str} {news' : Tok → Led} {Φ : Unit → Vals → Led → Prop} (G : Ok c) (h1 : HasL c news (x, .raw (instObj C dx))) (h2 : (dx, .raw (dictOf (att c.w.params l) n)) ∈ news)
    (hs : findIn (KF c.w.params) (.ref C) "__setattr__" = some (some (.builtin "object.__setattr__"))) (hp : plainOver (KF c.w.params) C = true) (ht : takerIn (KF c.w.params) C name = some none) (hh : hasDictIn (KF c.w.params) C = true)
    (hl : l.all (fun e => decide (e.1 ≠ name)) = true) (hz : l.length ≤ 100) (hu : ∀ t, Upd dx (.raw (dictOf (att c.w.params (l ++ [(name, t, v)])) (n + 1))) news (news' t)) (h : ∀ t, Φ () vals (news' t)) : AW c (setAttr (.ref x) name v) vals news Φ := by
  intro g s R
  have X := (G.top.ext (R.base.trans R.keep)).k
  have I := instAt (R.has h1) (R.led _ h2)
  obtain ⟨o, ho, _, hz'⟩ := R.led _ h2
  refine set_plain X I hs (osaA (s := { s with toks := s.toks + 1 }) X I hp ht hh hl hz fun h' t tk' hsb hd => ?_)
  exact ⟨vals, news' t, R.upd (hu t) hsb ⟨_, hd, rfl, trivial⟩, h t⟩
theorem AW.assignA {o : Expr} {attr : Str} {pos' pos : Pos} {value : Expr} {Φ : Flow → Vals → Led → Prop} (hs : swapsWith value (some (.Attribute o attr pos')) pos.line c.env = Pure.pure false)
    (h : AW c (eval value c.env) vals news fun x v n => AW c (eval o c.env) v n fun ov v n => AW c (PySem.setAttr ov attr x) v n fun _ => Φ .next) : AW c (exec (.Assign [.Attribute o attr pos'] value pos) c.env) vals news Φ :=
  fun g s R => plainObj_wpAny_Assign_Attribute (AW.then h R fun _ _ _ _ r p => AW.then p r fun _ _ _ _ r p => p g _ r) hs
inductive CallI (c : Cx) (C : Addr) (name : Str) (K : Addr → Vals → Led → Prop) (ov : Value) (v : Vals) (n : Led) : Prop where
  | mk (x dx : Addr) (l : List (Str × Tok × Value)) (k : Nat) (hx : ov = .ref x) (h1 : HasL c n (x, .raw (instObj C dx))) (h2 : HasL c n (dx, .raw (dictOf (att c.w.params l) k))) (h3 : (l.find? fun e => decide (e.1 = name)) = none) (q : K x v n)
/-- a method of an object's class, called on the spot -/
theorem AW.callI {o : Expr} {name : Str} {apos pos : Pos} {e : Expr} {rest : List Expr} {pl : Sem Bool} {f : Addr} {C : Addr} {Φ : Value → Vals → Led → Prop} (G : Ok c)
    (he : eval (.Call (.Attribute o name apos) (e :: rest) [] pos) c.env = (do
      let ov ← eval o c.env
      standAt apos.atName
      let (f, first) ← holding [ov] (getMethod ov name pl)
      callWith pos f first (backTo pos (starEach (e :: rest) c.env)) []))
    (hse : starEach (e :: rest) c.env = (false, eval e c.env) :: starEach rest c.env) (hpl : (backTo pos (starEach rest c.env)).any (·.1) = false)
    (hg : plainGet (KF c.w.params) C name = true) (hf : findIn (KF c.w.params) (.ref C) name = some (some (.ref f))) (hfn : isFn (KF c.w.params) (.ref f) = true) (hk : keepIn (KF c.w.params) (.ref f) = true)
    (h : AW c (eval o c.env) vals news (CallI c C name fun x v n => AW c (spliced (backTo pos (starEach (e :: rest) c.env))) v n fun as v n => AW c (call (.ref f) (.ref x :: as)) v n Φ)) : AW c (eval (.Call (.Attribute o name apos) (e :: rest) [] pos) c.env) vals news Φ := by
  intro g s R
  refine MethodCall_ (AW.then h R fun ov s₁ v n R₁ l => ?_) he
  obtain ⟨x, dx, l, k, e1, h1, h2, h3, q⟩ := l
  subst e1
  refine method_fn (G.top.ext (R₁.base.trans R₁.keep)).k (instAt (R₁.has h1) (R₁.has h2)) (plainGet_of hg).1 (plainGet_of hg).2 hf (beq_iff_eq.mp hfn) ?_ ?_
  · show (lookIn name (dictOf _ _)).map _ = _
    rw [lookIn_dict, att_get, h3]; rfl
  · have he' : backTo pos (starEach (e :: rest) c.env) = (false, eval e c.env) :: backTo pos (starEach rest c.env) := by rw [hse]; rfl
    rw [he'] at q ⊢
    refine callWith_of (P := fun h => (KF c.w.params).In h) (by simp [hpl]) (fun h X => keeps_K hk h X) (evalArgs_plain ?_)
    exact AW.then q R₁ fun as s₂ v n R₂ q => ⟨(G.top.ext (R₂.base.trans R₂.keep)).k, q g _ R₂⟩
end

theorem Room.made {A : Around} {k : Nat} {C : Addr} {rest : List Value} (r : Room A (k + 2)) (env : Env) : Room ((A.under (.builtin "type.__call__" ⟨.ref C :: rest, []⟩)).deeper env) k := by
  have hw : (Code.builtin "type.__call__" ⟨.ref C :: rest, []⟩).weight = 1 := by kernel_rfl
  have hu : (Code.builtin "type.__call__" ⟨.ref C :: rest, []⟩).cUnits = 1 := by kernel_rfl
  refine ⟨r.han, ?_, ?_⟩
  · have := r.dep
    show A.depth + (Code.builtin "type.__call__" ⟨.ref C :: rest, []⟩).weight + 1 + k < _
    rw [hw]; omega
  · have := r.uni
    show A.units + (Code.builtin "type.__call__" ⟨.ref C :: rest, []⟩).cUnits + 3 + 8 * k < _
    rw [hu]; omega

theorem enterI {w : World} {k : Nat} {C f : Addr} {oc : Value} {od : Option Addr} {fd : FuncData} {osl : Array (Option Value)} {body : List Stmt} {args : List Value} {binds : Addr → List (Str × Value)} {R : Value → Led → Prop}
    (nm : List Str) (vals₀ : Addr → Vals) (hm : makesIn (KF w.params) C = true) (hi : findIn (KF w.params) (.ref C) "__init__" = some (some (.ref f))) (hf : isFn (KF w.params) (.ref f) = true)
    (hl : (KF w.params).lookup f = some ⟨oc, od, .func fd, osl⟩) (hb : fd.body = .stmts body) (hc : codeIn (KF w.params) fd.code fd.qualname = true)
    (hbind : ∀ x, bindArgs fd ⟨.ref x :: args, []⟩ = Pure.pure (binds x)) (hcell : ∀ x ∈ fd.scope.names, x.2 ≠ .cell) (hloc : ∀ a, ∀ x ∈ binds a, fd.scope.names.lookup x.1 = some .local) (hco : fd.scope.isCoroutine = false) (hgen : fd.scope.isGenerator = false) (hk : fd.scope.kind = .function)
    (hglo : fd.globals = mainGlobals) (hblt : fd.builtins = builtinsNs) (hnd : nm.Nodup) (hv : ∀ x, InitV (binds x) nm (vals₀ x))
    (h : ∀ (A : Around) (L x dx : Addr) (s : Shared), Ok (fcx w A fd L f s nm) → Room A k → AW (fcx w A fd L f s nm) (execs body (fcx w A fd L f s nm).env) (vals₀ x) [(x, .raw (instObj C dx)), (dx, .raw (dictOf (att w.params []) 0))] fun fl v n => retOf fl = .none ∧ ∃ tl, tl.Sublist n ∧ R (.ref x) tl) :
    Spec w (k + 2) (.ref C) args [] R := by
  intro A s hr ht hn
  obtain ⟨hh, g, d, t, os⟩ := s
  have X : (KF w.params).In hh := ht.k
  refine wpAny_call (make_core (makes_of X hm) (looks_findIn X hi) (fun self => bind_fn X self (beq_iff_eq.mp hf)) (.inl rfl) ?_)
  have e0 : Ext hh ((hh.push emptyDict).push (instObj C hh.objs.size)) := (Ext.push _ _).trans (Ext.push _ _)
  have ht' : TopOK w ((hh.push emptyDict).push (instObj C hh.objs.size)) := ht.ext e0
  obtain ⟨mean, mg, mb, T⟩ := ht'.t
  have hsz : ((hh.push emptyDict).push (instObj C hh.objs.size)).objs.size = hh.objs.size + 2 := by rw [Heap.size_push, Heap.size_push]
  refine codeAny_call_plain (fd := fd) (by have := hr.dep; have := (hr.made (C := C) (rest := args) (callEnv fd 0 f)).dep; show _ < _; exact Nat.lt_of_le_of_lt (Nat.le_trans (Nat.le_add_right _ 1) (Nat.le_add_right _ k)) this) (ht'.k _ _ hl) rfl T.nolimit (codeRec_of ht'.k hc) hb (hbind _) hcell (hloc _) (fun h₀ hns hk₀ => ?_) hco hgen hk
  rw [hsz] at hns ⊢
  generalize hA : ((A.under (.builtin "type.__call__" ⟨.ref C :: args, []⟩)).deeper (callEnv fd (hh.objs.size + 2) f)) = A'
  have hr' : Room A' k := hA ▸ hr.made _
  have G : Ok (fcx w A' fd (hh.objs.size + 2) f ⟨hh, g, d, t, os⟩ nm) := ⟨hr'.han, ht, hglo, hblt, hk, hnd⟩
  have nn : ∀ a, hh.objs.size ≤ a → hh.get? a = none := fun a ha => get_none_of_size _ _ ha
  have R₀ : Rel (fcx w A' fd (hh.objs.size + 2) f ⟨hh, g, d, t, os⟩ nm) hh (vals₀ (hh.objs.size + 1)) [(hh.objs.size + 1, .raw (instObj C hh.objs.size)), (hh.objs.size, .raw (dictOf (att w.params []) 0))] ⟨h₀, g, d, t + (binds (hh.objs.size + 1)).length, os⟩ := by
    refine ⟨⟨h₀, _, rfl⟩, Ext.refl _, e0.trans hk₀, ⟨_, hns, (hv _).get, fun _ _ _ e => nomatch e⟩, ?_, ?_, ?_, ?_⟩
    · intro p hp
      rcases List.mem_cons.mp hp with rfl | hp
      · refine ⟨_, hk₀ _ _ ?_, rfl, trivial⟩
        have := Heap.get?_push_size (hh.push emptyDict) (o := instObj C hh.objs.size) rfl
        rwa [Heap.size_push] at this
      · rw [List.mem_singleton.mp hp]
        exact ⟨_, hk₀ _ _ (Heap.get?_push_of_some _ (Heap.get?_push_size _ rfl)), rfl, trivial⟩
    · show [hh.objs.size + 2, hh.objs.size + 1, hh.objs.size].Nodup
      simp
    · intro p hp
      rcases List.mem_cons.mp hp with rfl | hp
      · exact nn _ (Nat.le_succ _)
      · rw [List.mem_singleton.mp hp]; exact nn _ (Nat.le_refl _)
    · show if false = true then _ else _
      rw [if_neg Bool.false_ne_true]; exact nn _ (Nat.le_add_right _ 2)
  refine AW.then (h A' _ _ _ _ G hr') R₀ fun fl s' v n R' hq => ?_
  have fin := spec_of (fl := .ret (.ref (hh.objs.size + 1))) (R := R) (c := fcx w A' fd (hh.objs.size + 2) f ⟨hh, g, d, t, os⟩ nm) R' hq.2
  cases fl <;> exact ⟨hq.1, fin⟩
end Mine
end

section
namespace Mine
open PySem PySem.W PyProof.Rows PySem.Calls

section
variable {c : Cx} {vals : Vals} {news : Led}
theorem AW.addL {a b : Addr} {xs ys : List Value} {Φ : Value → Vals → Led → Prop} (G : Ok c) (ha : HasL c news (a, .list xs)) (hb : HasL c news (b, .list ys)) (hsz : xs.length + ys.length ≤ sizeLine) (h : ∀ r, Φ (.ref r) vals ((r, .list (xs ++ ys)) :: news)) :
    AW c (binaryOp .Add (.ref a) (.ref b)) vals news Φ := by
  intro g s R
  obtain ⟨o, ho, ⟨n, rfl⟩, _⟩ := R.has ha
  obtain ⟨o', ho', ⟨n', rfl⟩, _⟩ := R.has hb
  have e : xs.toArray ++ ys.toArray = (xs ++ ys).toArray := by simp
  refine concat_meets ⟨_, ho, rfl⟩ ⟨_, ho', rfl⟩ noFill_list_add seq_list_add PySem.F.slot_list_add PySem.F.entry_list_add (PySem.F.args_list_add_2 _ _) (list_addW a b xs.toArray ys.toArray n n' none none #[] #[] (by simpa using hsz)) ⟨ho, ho', ?_⟩
  rw [e]
  exact ⟨vals, _, R.new G.top _ (.list (xs ++ ys)) rfl ⟨0, rfl⟩, h _⟩
theorem rep_fold (v : Value) : ∀ (n : Nat) (acc : Array Value), (List.replicate n #[v]).foldl (fun x1 x2 => x1 ++ x2) acc = acc ++ (List.replicate n v).toArray := by
  intro n
  induction n with
  | zero => intro acc; simp
  | succ n ih =>
    intro acc
    rw [List.replicate_succ, List.foldl_cons, ih]
    apply Array.ext'
    simp [List.replicate_succ]
theorem AW.mulL {a : Addr} {v : Value} {x : Int} {u : Tok} {Φ : Value → Vals → Led → Prop} (G : Ok c) (ha : HasL c news (a, .list [v])) (h0 : 0 ≤ x) (h1 : x < 1000) (h : ∀ r, Φ (.ref r) vals ((r, .list (List.replicate x.toNat v)) :: news)) :
    AW c (binaryOp .Mult (.ref a) (.int x u)) vals news Φ := by
  intro g s R
  obtain ⟨o, hl, ⟨k, rfl⟩, _⟩ := R.has ha
  refine wpAny_binaryOp_repeat_ref (T := "list") (U := "int") (by decide) ⟨_, hl, rfl⟩ (fun s' => typeIs_int s' x u) noFill_list_mul PySem.F.fills_int_mul PySem.F.slot_int_rmul repeat_list PySem.F.slot_int_index.lookup
    (call_meets PySem.F.slot_int_rmul (typeIs_int s x u) PySem.F.entry_int_rmul (PySem.F.args_int_rmul_2 _ _) (int___rmul___int_list x u a [v].toArray k)
      ⟨hl, rfl, ⟨_, hl, rfl⟩, call_meets PySem.F.slot_list_mul ⟨_, hl, rfl⟩ PySem.F.entry_list_mul (PySem.F.args_list_mul_2 _ _)
        (AutoListH.list___mul___list_int_3 a [v].toArray k x u (by simp [Builtin.List.listFitsIndex]; omega) (by simp; omega) (by simp [Builtin.List.listTooLong, sizeLine]; omega))
        ⟨hl, ?_⟩⟩)
  have e : List.foldl (fun x1 x2 => x1 ++ x2) #[] (List.replicate (if [v].toArray.isEmpty = true then 0 else x.toNat) [v].toArray) = (List.replicate x.toNat v).toArray := by
    rw [if_neg (by simp)]
    have := rep_fold v x.toNat #[]
    simpa using this
  rw [e]
  exact ⟨vals, _, R.new G.top _ (.list (List.replicate x.toNat v)) rfl ⟨0, rfl⟩, h _⟩
theorem AW.tupleL {a : Addr} {its : List Value} {Φ : Value → Vals → Led → Prop} (G : Ok c) (ha : HasL c news (a, .list its)) (hsz : its.length ≤ sizeLine) (h : ∀ r, Φ (.ref r) vals ((r, .tup its) :: news)) :
    AW c (call (.type "tuple") [.ref a]) vals news Φ := by
  intro g s R
  obtain ⟨o, hl, ⟨k, rfl⟩, _⟩ := R.has ha
  refine call_tuple_list ⟨_, hl, rfl, k, rfl⟩ (fun h' hk => ?_) (by simpa using hsz)
  have R' : Rel c g vals news { s with heap := h' } := R.grow (tk := s.toks) hk
  exact ⟨vals, _, R'.new G.top _ (.tup its) rfl ⟨0, rfl⟩, h _⟩
theorem AW.assign3 {t₁ t₂ t₃ value : Expr} {pos : Pos} {Φ : Flow → Vals → Led → Prop}
    (he : (assignEach [t₁, t₂, t₃] c.env).map (·.2) = [assign t₁ c.env, assign t₂ c.env, assign t₃ c.env]) (hw : swappedStores [t₁, t₂, t₃] value c.env = Pure.pure none)
    (h : AW c (eval value c.env) vals news fun x v n => AW c (assign t₁ c.env x) v n fun _ v n => AW c (assign t₂ c.env x) v n fun _ v n => AW c (assign t₃ c.env x) v n fun _ => Φ .next) : AW c (exec (.Assign [t₁, t₂, t₃] value pos) c.env) vals news Φ :=
  fun g s R => wpAny_Assign_three (AW.then h R fun _ _ _ _ r p => AW.then p r fun _ _ _ _ r p => AW.then p r fun _ _ _ _ r p => p g _ r) he hw
theorem AW.assignSw {elts : List Expr} {k : Nat} {tpos pos : Pos} {value : Expr} {x y : Str} {Φ : Flow → Vals → Led → Prop} (G : Ok c) (hs : swapsWithSole [.Tuple elts k tpos] value pos.line c.env = Pure.pure false) (hw : swappedStores [.Tuple elts k tpos] value c.env = Pure.pure (some [x, y]))
    (h : AW c (eval value c.env) vals news fun a v n => ∃ r p q, a = .ref r ∧ HasL c n (r, .tup [p, q]) ∧ AW c (storeName c.env y q) v n fun _ v n => AW c (storeName c.env x p) v n fun _ => Φ .next) : AW c (exec (.Assign [.Tuple elts k tpos] value pos) c.env) vals news Φ := by
  intro g s R
  refine Assign_Tuple_swapped (names := [x, y]) (wpAny_mono (h g s R) (fun a s₁ ⟨v, n, R₁, r, p, q, e1, hm, hh⟩ => ?_) fun _ _ e => e) hs hw
  subst e1
  obtain ⟨o, ho, ⟨m, rfl⟩, _⟩ := R₁.has hm
  refine wpAny_unpackItems_tuple (items := #[p, q]) G.han ⟨_, ho, rfl, m, rfl⟩ fun h' he => ?_
  have R' : Rel c g v n { s₁ with heap := h' } := R₁.grow (tk := s₁.toks) fun b o q => he b o (Nat.ne_of_lt (Heap.lt_size q)) q
  exact wpAny_assignInOrder_more (wpAny_mono (bindName_ (hh g _ R')) (fun _ _ ⟨_, _, r, p⟩ => wpAny_assignInOrder_more (wpAny_mono (bindName_ (p g _ r)) (fun _ _ q => wpAny_assignInOrder_none q) fun _ _ e => e)) fun _ _ e => e)
theorem AW.setL {l : Addr} {its : List Value} {k : Int} {t : Tok} {v : Value} {news' : Led} {Φ : Unit → Vals → Led → Prop} (hm : (l, .list its) ∈ news) (hu : Upd l (.list (its.set k.toNat v)) news news') (h0 : 0 ≤ k) (hk : k < its.length) (hz : its.length ≤ sizeLine) (h : Φ () vals news') :
    AW c (setItem (.ref l) (.int k t) v) vals news Φ := by
  intro g s R
  obtain ⟨o, ho, ⟨n, rfl⟩, hz'⟩ := R.led _ hm
  have hT : s.TypeIs (.ref l) "list" := ⟨_, ho, rfl⟩
  unfold setItem
  try with_reducible refine wpAny_holding ?_
  first | refine wpAny_bind (wpAny_pure ?_) | skip
  refine wpAny_bind (wpAny_sequenceKey hT (by decide) ?_)
  refine wpAny_bind (wpAny_callSpecial?_slot (name := Str.ofString "__setitem__") hT slot_list_setitem (wpAny_call_entry slot_list_setitem hT entry_list_setitem ?_ (args_list_setitem _ _ _)))
  show wpAny _ _ (Builtin.List.listSubscript? (.int k t) >>= _) _ _ s
  have hz2 := hz
  rw [sizeLine_eq] at hz2
  refine wpAny_bind (wpAny_listSubscript_int (fitsIndex_of h0 (by omega)) ?_)
  obtain ⟨j, rfl⟩ := Int.eq_ofNat_of_zero_le h0
  have hj : j < its.toArray.size := by simp; omega
  have hx' : its.toArray[j]? = some its.toArray[j] := Array.getElem?_eq_getElem hj
  show wpAny _ _ ((seqItemAt l j >>= fun r => Pure.pure (r.map (j, ·))) >>= _) _ _ s
  refine wpAny_bind (wpAny_bind (wpAny_seqItemAt ho rfl (wpAny_pure ?_)))
  rw [hx']
  show wpAny _ _ (setSeqItemAt l j v >>= _) _ _ s
  have e : its.toArray.setIfInBounds j v = (its.set j v).toArray := by simp
  obtain ⟨n', hd'⟩ := Obj.data_mapSeq (o := { cls := .type "list", data := .seq its.toArray n }) rfl (·.setIfInBounds j v)
  have hfin : Has c.w (s.heap.update l (Obj.mapSeq (·.setIfInBounds j v))) (l, .list (its.set j v)) := by
    refine ⟨_, Heap.get?_update_self _ ho (Obj.isFreed_of_seq hd'), ⟨n', ?_⟩, hz'⟩
    rw [e] at hd'
    generalize hX : Obj.mapSeq (fun x => x.setIfInBounds j v) { cls := .type "list", data := .seq its.toArray n } = X at hd'
    unfold Obj.mapSeq at hX
    rw [← hX] at hd' ⊢
    simp only at hd' ⊢
    simp_all
  refine wpAny_bind (wpAny_setSeqItemAt ho rfl ?_)
  have fin : ∃ vals' news'_1, Rel c g vals' news'_1 { s with heap := s.heap.update l (Obj.mapSeq (·.setIfInBounds j v)) } ∧ Φ () vals' news'_1 := ⟨vals, news', R.upd (tk := s.toks) hu (Heap.SameBut.update ..) hfin, h⟩
  first
    | exact wpAny_bind (wpAny_pure (wpAny_pure ⟨.none, rfl, wpAny_pure fin⟩))
    | exact wpAny_pure ⟨.none, rfl, wpAny_pure fin⟩
end
end Mine
end

section
namespace Mine
open PySem PySem.W PyProof.Rows PySem.Calls

/-! ranges -/
theorem range_small {a b : Int} (ha : a.natAbs < 2 ^ 40) (hb : b.natAbs < 2 ^ 40) : Builtin.Range.small a b 1 = true := by
  unfold Builtin.Range.small
  rw [rangeSize_nat]
  simp [Builtin.Range.rangeFitsLong]
  omega
section
variable {c : Cx} {vals : Vals} {news : Led}
theorem AW.range1 {n : Int} {t : Tok} {Φ : Value → Vals → Led → Prop} (G : Ok c) (h : ∀ r t0 t1, Φ (.ref r) vals ((r, .raw (rangeObj 0 n 1 t0 t t1)) :: news)) : AW c (call (.type "range") [.int n t]) vals news Φ := by
  intro g s R
  exact call_range_1 ⟨vals, _, (R.new G.top _ (.raw _) rfl rfl).tok _, h _ _ _⟩
theorem AW.range2 {a b : Int} {t u : Tok} {Φ : Value → Vals → Led → Prop} (G : Ok c) (h : ∀ r t1, Φ (.ref r) vals ((r, .raw (rangeObj a b 1 t u t1)) :: news)) : AW c (call (.type "range") [.int a t, .int b u]) vals news Φ := by
  intro g s R
  exact call_range_2 ⟨vals, _, (R.new G.top _ (.raw _) rfl rfl).tok _, h _ _⟩
end
theorem starts_range {c : Cx} {x : Str} {pos : Pos} {r : Addr} {a b : Int} {t u v : Tok} (ha : a.natAbs < 2 ^ 40) (hb : b.natAbs < 2 ^ 40) :
    Starts c (.Name x pos) (.ref r) [(r, .raw (rangeObj a b 1 t u v))] (b - a).toNat (fun i y tl => (∃ t, y = .int (a + i) t) ∧ tl = []) := by
  intro A s Q E hA hs hQ
  obtain ⟨o, ho, e, _⟩ := hs _ List.mem_cons_self
  have e : o = rangeObj a b 1 t u v := e
  subst e
  refine wpAny_pyIter_range (t := t) (u := u) (v := v) ho (range_small ha hb) ?_
  rw [rangeSize_nat]
  have W := WalkOn.ofWalks (c := c) (x := x) (pos := pos) (I := s.heap.objs.size) (n := (b - a).toNat) (P := fun i v => ∃ t, v = .int (a + i * 1) t) (St := fun i h => IsRangeIter h s.heap.objs.size (a + (i : Nat) * 1) (((b - a).toNat : Int) - (i : Nat)) 1)
    (fun i h st => ⟨_, st⟩) (fun A' hA' => Walks.range hA' s.heap.objs.size a 1 (b - a).toNat) ⟨A, hA⟩
  have W' : WalkOn c (.Name x pos) s.heap.objs.size [s.heap.objs.size] [(r, .raw (rangeObj a b 1 t u v))] (b - a).toNat (fun i y tl => (∃ t, y = .int (a + i) t) ∧ tl = []) (fun i h => IsRangeIter h s.heap.objs.size (a + (i : Nat) * 1) (((b - a).toNat : Int) - (i : Nat)) 1) (fun i _ h => IsRangeIter h s.heap.objs.size (a + (i : Nat) * 1) (((b - a).toNat : Int) - (i : Nat)) 1) :=
    ⟨W.alive, W.aliveM, W.frame, fun A i s Q E hA hi st _ hQ => W.item A i s Q E hA hi st (by intro p hp; cases hp) fun v tl h' tk hP => hQ v tl h' tk (by
      obtain ⟨⟨t, e⟩, e2⟩ := hP
      rw [Int.mul_one] at e; exact ⟨⟨t, e⟩, e2⟩), W.lg, fun A s Q E hA st _ hQ => W.done A s Q E hA st (by intro p hp; cases hp) hQ⟩
  refine hQ _ [s.heap.objs.size] _ _ _ s.toks (Ext.push _ _) (fun b hb => by rw [List.mem_singleton.mp hb]; exact get_none_of_size _ _ (Nat.le_refl _)) ?_ W'
  show IsRangeIter _ _ (a + ((0 : Nat) : Int) * 1) (((b - a).toNat : Int) - ((0 : Nat) : Int)) 1
  have e1 : a + ((0 : Nat) : Int) * 1 = a := by simp
  have e2 : ((b - a).toNat : Int) - ((0 : Nat) : Int) = ((b - a).toNat : Int) := by simp
  rw [e1, e2]
  exact Heap.get?_push_size _ rfl
theorem feeds_range {c : Cx} (G : Ok c) {r : Addr} {a b : Int} {t u v : Tok} (ha : a.natAbs < 2 ^ 40) (hb : b.natAbs < 2 ^ 40) : Feeds c (.ref r) [(r, .raw (rangeObj a b 1 t u v))] (b - a).toNat (fun i y => ∃ t, y = .int (a + i) t) := by
  intro s Q E hs hQ
  obtain ⟨o, ho, e, _⟩ := hs _ List.mem_cons_self
  have e : o = rangeObj a b 1 t u v := e
  subst e
  refine wpAny_pyIter_range (t := t) (u := u) (v := v) ho (range_small ha hb) ?_
  rw [rangeSize_nat]
  have W := Walks.range (prog := PySem.Challenge.rw_wj0025_01.row.prog) (w := c.w) G.han s.heap.objs.size a 1 (b - a).toNat
  have W' : Walks PySem.Challenge.rw_wj0025_01.row.prog c.w c.A s.heap.objs.size [s.heap.objs.size] [s.heap.objs.size] (b - a).toNat (fun i y => ∃ t, y = .int (a + i) t) (fun i h => IsRangeIter h s.heap.objs.size (a + (i : Nat) * 1) (((b - a).toNat : Int) - (i : Nat)) 1) :=
    ⟨W.sub, W.frame, fun i s Q E hi st hQ => W.item i s Q E hi st fun v h' tk hP => hQ v h' tk (by
      obtain ⟨t, e⟩ := hP
      rw [Int.mul_one] at e; exact ⟨t, e⟩), W.done, W.self⟩
  refine hQ _ [s.heap.objs.size] _ _ s.toks (Ext.push _ _) (get_none_of_size _ _ (Nat.le_refl _)) (fun b hb => by rw [Heap.size_push, List.mem_singleton.mp hb]; exact Nat.lt_succ_self _) ?_ W'
  show IsRangeIter _ _ (a + ((0 : Nat) : Int) * 1) (((b - a).toNat : Int) - ((0 : Nat) : Int)) 1
  have e1 : a + ((0 : Nat) : Int) * 1 = a := by simp
  have e2 : ((b - a).toNat : Int) - ((0 : Nat) : Int) = ((b - a).toNat : Int) := by simp
  rw [e1, e2]
  exact Heap.get?_push_size _ rfl

/-! a dict that stands still -/
noncomputable abbrev SK (w : World) := strKind PySem.Challenge.rw_wj0025_01.row.prog w
section
variable {c : Cx} {vals : Vals} {news : Led}
theorem AW.freeze {α : Type} {t : Sem α} {a : Addr} {kvs : List (Str × Value)} {Φ : α → Vals → Led → Prop} (hm : (a, .dict kvs) ∈ news)
    (h : ∀ o news', o.IsDictOf (SK c.w) kvs → (a == sysModules) = false → Upd a (.raw o) news news' → AW c t vals news' Φ) (hu : ∀ o, ∃ news', Upd a (.raw o) news news') : AW c t vals news Φ := by
  intro g s R
  obtain ⟨o, ho, hd, hz⟩ := R.led _ hm
  obtain ⟨news', u⟩ := hu o
  exact h o news' hd hz u g s (R.upd (tk := s.toks) u (Heap.SameBut.refl _ _) ⟨o, ho, rfl, trivial⟩)
theorem AW.getDR {a : Addr} {o : Obj} {kvs : List (Str × Value)} {k : Str} {t : Tok} {v : Value} {Φ : Value → Vals → Led → Prop} (hm : HasL c news (a, .raw o)) (hd : o.IsDictOf (SK c.w) kvs) (hv : valueAt kvs k = some v) (h : Φ v vals news) : AW c (getItem (.ref a) (.str k t)) vals news Φ := by
  intro g s R
  obtain ⟨o', ho, e, _⟩ := R.has hm
  have e : o' = o := e
  subst e
  have hD : s.heap.DictOf (SK c.w) a kvs := Heap.dictOf_iff.mpr ⟨o', ho, hd⟩
  exact wpAny_getItem_of (strKind_is _ _ k t) hD.mapOf hv ⟨_, _, R.tok _, h⟩
theorem AW.tailDR {value slice : Expr} {a : Addr} {o : Obj} {kvs : List (Str × Value)} {i : Value} {ops : List Value} {Φ : Value → Vals → Led → Prop} (hm : HasL c news (a, .raw o)) (hd : o.IsDictOf (SK c.w) kvs) (hs : subscripted slice false (.ref a) i = operate ops (getItem (.ref a) i)) (h : AW c (getItem (.ref a) i) vals news Φ) :
    AW c (subscriptTail value slice (.ref a) i) vals news Φ := by
  intro g s R
  obtain ⟨o', ho, e, _⟩ := R.has hm
  have e : o' = o := e
  subst e
  have hD : s.heap.DictOf (SK c.w) a kvs := Heap.dictOf_iff.mpr ⟨o', ho, hd⟩
  exact tail_any (T := "dict") hD.typeIs PySem.slot_dict_getitem.lookup (h g s R) hs
end
theorem starts_keys {c : Cx} {x : Str} {pos : Pos} {a : Addr} {o : Obj} {kvs : List (Str × Value)} (hd : o.IsDictOf (SK c.w) kvs) (hz : (a == sysModules) = false) :
    Starts c (.Name x pos) (.ref a) [(a, .raw o)] kvs.length (fun i y tl => (∃ k v t, kvs[i]? = some (k, v) ∧ y = .str k t) ∧ tl = []) := by
  intro A s Q E hA hs hQ
  have read : ∀ s' : Shared, (∀ p ∈ [(a, MO.raw o)], Has c.w s'.heap p) → s'.heap.get? a = some o := fun s' h => by
    obtain ⟨o', ho, e, _⟩ := h _ List.mem_cons_self
    have e : o' = o := e
    rw [← e]; exact ho
  obtain ⟨es, ep, r⟩ := hd
  have hDA : ∀ h : Heap, h.get? a = some o → h.DictAt (SK c.w) a kvs ep := fun h q => ⟨o, es, q, r⟩
  have ho := read s hs
  have hne : a ≠ s.heap.objs.size := Nat.ne_of_lt (Heap.lt_size ho)
  refine wpAny_pyIter_dict hz (hDA _ ho) (hQ _ [s.heap.objs.size] (fun i h => h.IsKeyIter s.heap.objs.size a i kvs.length ep) (fun i v h => h.IsKeyIter s.heap.objs.size a i kvs.length ep) _ s.toks (Ext.push _ _)
    (fun b hb => by rw [List.mem_singleton.mp hb]; exact get_none_of_size _ _ (Nat.le_refl _)) ⟨_, Heap.get?_push_size _ rfl, rfl, rfl⟩ ?_)
  have W : ∀ A' : Around, A'.handled = none → _ := fun A' hA' => Walks.dictKeys (knd := SK c.w) (A := A') hA' s.heap.objs.size a hne kvs ep
  constructor
  · intro i h st b hb
    rw [List.mem_singleton.mp hb]; obtain ⟨o, ho, _⟩ := st; exact ⟨o, ho⟩
  · intro i v h st b hb
    rw [List.mem_singleton.mp hb]; obtain ⟨o, ho, _⟩ := st; exact ⟨o, ho⟩
  · intro i h h' st hk
    obtain ⟨o, ho, r⟩ := st
    exact ⟨o, hk _ (by simp) _ ho, r⟩
  · intro A' i s' Q' E' hA' hi st hs' hq
    refine (W A' hA').item i s' Q' E' hi ⟨st, hDA _ (read s' hs')⟩ fun v h' tk hP st' hk => ?_
    obtain ⟨k, x, e1, e2⟩ := hP
    obtain ⟨t, rfl⟩ := Value.isStrOf_shape e2
    exact hq _ [] h' tk ⟨⟨k, x, t, e1, rfl⟩, rfl⟩ (by simp) (by intro p hp; cases hp) st'.1 hk
  · intro A' i v s' Q' E' st hq
    exact lg_name (hq s'.heap st fun _ _ _ e => e)
  · intro A' s' Q' E' hA' st hs' hq
    exact (W A' hA').done s' Q' E' ⟨st, hDA _ (read s' hs')⟩ hq
end Mine
end

section
namespace Mine
open PySem PySem.W PyProof.Rows PySem.Calls

section
variable {c : Cx} {vals : Vals} {news : Led}
theorem AW.tailT {value slice : Expr} {a : Addr} {its : List Value} {i : Value} {ops : List Value} {Φ : Value → Vals → Led → Prop} (hm : HasL c news (a, .tup its)) (hs : subscripted slice false (.ref a) i = operate ops (getItem (.ref a) i)) (h : AW c (getItem (.ref a) i) vals news Φ) :
    AW c (subscriptTail value slice (.ref a) i) vals news Φ := by
  intro g s R
  obtain ⟨o, ho, ⟨n, rfl⟩, hz⟩ := R.has hm
  exact tail_any (T := "tuple") ⟨_, ho, rfl⟩ PySem.F.slot_tuple_getitem.lookup (h g s R) hs
theorem AW.getT {a : Addr} {its : List Value} {i : Int} {u : Tok} {y : Value} {Φ : Value → Vals → Led → Prop} (hm : HasL c news (a, .tup its)) (h0 : 0 ≤ i) (hi : i < 2 ^ 63) (hy : its[i.toNat]? = some y) (h : Φ y vals news) : AW c (getItem (.ref a) (.int i u)) vals news Φ := by
  intro g s R
  obtain ⟨o, ho, ⟨n, rfl⟩, hz⟩ := R.has hm
  have hlt : i.toNat < its.length := by
    rcases Nat.lt_or_ge i.toNat its.length with q | q
    · exact q
    · rw [List.getElem?_eq_none q] at hy; cases hy
  refine getItem_tuple (items := its.toArray) (j := i.toNat) ⟨_, ho, rfl, n, rfl⟩ (by omega) hi ?_ (by simpa using hy) ⟨_, _, R, h⟩
  unfold seqIndex?
  simp
  omega
end
end Mine
end

section
namespace Mine
open PySem PySem.W PyProof.Rows PySem.Calls
theorem Rel.perm {c : Cx} {g : Heap} {vals : Vals} {news news' : Led} {s : Shared} (R : Rel c g vals news s) (h : news'.Perm news) : Rel c g vals news' s where
  same := R.same
  base := R.base
  keep := R.keep
  ns := R.ns
  led := fun p hp => R.led p (h.mem_iff.mp hp)
  apart := ((h.map (·.1)).cons _).nodup_iff.mpr R.apart
  fresh := fun p hp => R.fresh p (h.mem_iff.mp hp)
  frame := R.frame
theorem AW.weakP {α : Type} {c : Cx} {vals : Vals} {news : Led} {t : Sem α} {Φ : α → Vals → Led → Prop} (h : AW c t vals news fun a v n => ∃ l n', l.Sublist n ∧ n'.Perm l ∧ Φ a v n') : AW c t vals news Φ :=
  fun g s R => wpAny_mono (h g s R) (fun a s' ⟨v, n, r, l, n', hs, hp, p⟩ => ⟨v, n', (r.drop hs).perm hp, p⟩) fun _ _ e => e
theorem Upd.mid {a : Addr} {x mo : MO} {r : Led} : ∀ (pre : Led), Upd a mo (pre ++ (a, x) :: r) (pre ++ (a, mo) :: r)
  | [] => .here
  | p :: pre => .there (Upd.mid pre)
theorem Upd.app {a : Addr} {mo : MO} {r r' : Led} (h : Upd a mo r r') : ∀ (pre : Led), Upd a mo (pre ++ r) (pre ++ r')
  | [] => h
  | p :: pre => .there (Upd.app h pre)
end Mine
namespace Mine
open PySem PySem.W PyProof.Rows PySem.Calls
theorem AW.permuted {α : Type} {c : Cx} {vals : Vals} {news news' : Led} {t : Sem α} {Φ : α → Vals → Led → Prop} (hp : news'.Perm news) (h : AW c t vals news' Φ) : AW c t vals news Φ :=
  fun g s R => h g s (R.perm hp)
theorem AW.freeze2 {α : Type} {c : Cx} {vals : Vals} {news : Led} {t : Sem α} {a : Addr} {kvs : List (Str × Value)} {news' : Obj → Led} {Φ : α → Vals → Led → Prop} (hm : (a, .dict kvs) ∈ news) (hu : ∀ o, Upd a (.raw o) news (news' o))
    (h : ∀ o, o.IsDictOf (SK c.w) kvs → (a == sysModules) = false → AW c t vals (news' o) Φ) : AW c t vals news Φ := by
  intro g s R
  obtain ⟨o, ho, hd, hz⟩ := R.led _ hm
  exact h o hd hz g s (R.upd (tk := s.toks) (hu o) (Heap.SameBut.refl _ _) ⟨o, ho, rfl, trivial⟩)
end Mine
end

section
namespace Mine
open PySem PySem.W PyProof.Rows PySem.Calls

theorem StartsS.w {c c' : Cx} (h : c.w = c'.w) {target : Expr} {xv : Value} {src : Led} {n : Nat} {P : Nat → Value → Led → Prop} (S : StartsS c target xv src n P) : StartsS c' target xv src n P := by
  obtain ⟨w, A, env, h₀, s₀, nm, ro⟩ := c
  obtain ⟨w', A', env', h₀', s₀', nm', ro'⟩ := c'
  cases h
  intro A s Q E hA hs hQ
  exact S A s Q E hA hs fun I It Mid h' tk a b b' d W S' => hQ I It Mid h' tk a b b' d ⟨W.alive, W.aliveM, W.frame, W.item, W.lg, W.done⟩ S'

theorem startsS_range {c : Cx} {x : Str} {pos : Pos} {r : Addr} {a b : Int} {t u v : Tok} (ha : a.natAbs < 2 ^ 40) (hb : b.natAbs < 2 ^ 40) :
    StartsS c (.Name x pos) (.ref r) [(r, .raw (rangeObj a b 1 t u v))] (b - a).toNat (fun i y tl => (∃ t, y = .int (a + i) t) ∧ tl = []) := by
  intro A s Q E hA hs hQ
  obtain ⟨o, ho, e, _⟩ := hs _ List.mem_cons_self
  have e : o = rangeObj a b 1 t u v := e
  subst e
  refine wpAny_pyIter_range (t := t) (u := u) (v := v) ho (range_small ha hb) ?_
  rw [rangeSize_nat]
  have W := WalkOn.ofWalks (c := c) (x := x) (pos := pos) (I := s.heap.objs.size) (n := (b - a).toNat) (P := fun i v => ∃ t, v = .int (a + i * 1) t) (St := fun i h => IsRangeIter h s.heap.objs.size (a + (i : Nat) * 1) (((b - a).toNat : Int) - (i : Nat)) 1)
    (fun i h st => ⟨_, st⟩) (fun A' hA' => Walks.range hA' s.heap.objs.size a 1 (b - a).toNat) ⟨A, hA⟩
  have W' : WalkOn c (.Name x pos) s.heap.objs.size [s.heap.objs.size] [(r, .raw (rangeObj a b 1 t u v))] (b - a).toNat (fun i y tl => (∃ t, y = .int (a + i) t) ∧ tl = []) (fun i h => IsRangeIter h s.heap.objs.size (a + (i : Nat) * 1) (((b - a).toNat : Int) - (i : Nat)) 1) (fun i _ h => IsRangeIter h s.heap.objs.size (a + (i : Nat) * 1) (((b - a).toNat : Int) - (i : Nat)) 1) :=
    ⟨W.alive, W.aliveM, W.frame, fun A i s Q E hA hi st _ hQ => W.item A i s Q E hA hi st (by intro p hp; cases hp) fun v tl h' tk hP => hQ v tl h' tk (by
      obtain ⟨⟨t, e⟩, e2⟩ := hP
      rw [Int.mul_one] at e; exact ⟨⟨t, e⟩, e2⟩), W.lg, fun A s Q E hA st _ hQ => W.done A s Q E hA st (by intro p hp; cases hp) hQ⟩
  refine hQ _ _ _ _ s.toks (Ext.push _ _) (get_none_of_size _ _ (Nat.le_refl _)) ⟨_, Heap.get?_push_size _ rfl⟩ ?_ W' ?_
  · show IsRangeIter _ _ (a + ((0 : Nat) : Int) * 1) (((b - a).toNat : Int) - ((0 : Nat) : Int)) 1
    have e1 : a + ((0 : Nat) : Int) * 1 = a := by simp
    have e2 : ((b - a).toNat : Int) - ((0 : Nat) : Int) = ((b - a).toNat : Int) := by simp
    rw [e1, e2]
    exact Heap.get?_push_size _ rfl
  · intro A' i s' Q' E' st _ hq
    exact wpAny_pyIter_rangeiter st hq

section
variable {c : Cx} {vals : Vals} {news : Led}
noncomputable abbrev testsOf (c : Cx) (ifs : List Expr) : Sem Bool := forIn ifs true fun t r => if r = true then do let ok ← isTrue t c.env (eval t c.env); Pure.pure (ForInStep.yield ok) else Pure.pure (ForInStep.yield r)
theorem AW.tests0 {Φ : Bool → Vals → Led → Prop} (h : Φ true vals news) : AW c (testsOf c []) vals news Φ := fun _ _ R => wpAny_tests_nil ⟨_, _, R, h⟩
theorem AW.tests1 {t : Expr} {Φ : Bool → Vals → Led → Prop} (h : AW c (isTrue t c.env (eval t c.env)) vals news Φ) : AW c (testsOf c [t]) vals news Φ := by
  have e : testsOf c [t] = (isTrue t c.env (eval t c.env) >>= fun ok => Pure.pure ok) := by
    unfold testsOf
    simp
  rw [e]
  exact AW.bind (h.mono fun _ _ _ p => AW.pure p)

theorem AW.compLoop {elt : Expr} {gens : List Comprehension} {scope : Scope} {pos : Pos} {d : Nat} {acc : Value} {x : Str} {px : Pos} {iter : Expr} {ifs : List Expr} {emit : Sem Unit} {I : Addr} {wr : List Addr} {src : Led} {n : Nat} {P : Nat → Value → Led → Prop}
    {It : Nat → Heap → Prop} {Mid : Nat → Value → Heap → Prop} (G : Ok c) (hro : c.ro = false)
    (hct : compTurn (.ListComp elt gens scope pos) d (.ref I) acc c.env = (do
      standAt iter.pos
      match ← pyNext (.ref I) with
      | none => Pure.pure (.done .next)
      | some v =>
        letOwnedTupleGo (.Name x px) (.ref I) v
        assign (.Name x px) c.env v
        let mut ok := true
        for t in ifs do
          if ok then ok ← isTrue t c.env (eval t c.env)
        if ok then
          emit
        again (.compLoop (.ListComp elt gens scope pos) d (.ref I) acc c.env)))
    (W : WalkOn c (.Name x px) I wr src n P It Mid) (Inv : Nat → Vals → Led → Prop) (hIsrc : ∀ i v₂ n₂, Inv i v₂ n₂ → ∀ p ∈ src, HasL c n₂ p)
    (hturn : ∀ i v tl v₂ n₂, i < n → P i v tl → Inv i v₂ n₂ → AW c (assign (.Name x px) c.env v) v₂ (tl ++ n₂) fun _ v₃ n₃ => AW c (testsOf c ifs) v₃ n₃ fun ok v₄ n₄ => if ok = true then AW c emit v₄ n₄ fun _ => Inv (i + 1) else Inv (i + 1) v₄ n₄)
    {g : Heap} {v₁ : Vals} {n₁ : Led} {s : Shared} (R₂ : Rel c g v₁ n₁ s) (hI0 : Inv 0 v₁ n₁) (hit : It 0 s.heap) (w : c.env.locals ∉ wr ∧ (∀ p ∈ n₁, p.1 ∉ wr) ∧ (∀ b ∈ wr, g.get? b = none)) :
    codeAny (MD c.w) c.A (.compLoop (.ListComp elt gens scope pos) d (.ref I) acc c.env) (fun r s' => match r with | .ok _ => ∃ v n', Rel c g v n' s' ∧ Inv n v n' | .error _ => False) s := by
  refine codeAny_loop rfl (LI c g wr It Inv n) ?_ (n + 1) ⟨0, v₁, n₁, rfl, Nat.zero_le _, R₂, hit, hI0, w.2.1⟩
  rintro k s₂ ⟨i, v₂, n₂, rfl, hi, R₃, hIt, hInv, hw⟩
  show wpAny _ c.A ((compTurn (.ListComp elt gens scope pos) d (.ref I) acc c.env).onRaise (fun x => do noteFrame x c.env; theTreesLotGoes x)) _ _ s₂
  refine wpAny_noted ?_
  rw [hct]
  refine wpAny_bind (wpAny_standAt (wpAny_bind ?_))
  by_cases hlt : i < n
  · refine W.item c.A i s₂ _ _ G.han hlt hIt (fun p hp => R₃.has (hIsrc i v₂ n₂ hInv p hp)) fun v tl h₃ tk₃ hP hnd htl hMid hk₃ => ?_
    refine wpAny_bind (W.lg c.A (i + 1) v _ _ _ hMid fun h₄ hIt₄ hk₄ => ?_)
    refine W.turned (tk₃ := tk₃) hro w.1 w.2.2 R₃ hIt hw hnd htl hk₃ hIt₄ hk₄ fun g' R₇ out => ?_
    refine wpAny_bind (AW.then (hturn i v tl v₂ n₂ hlt hP hInv) R₇ fun _ s₃ v₃ n₃ R₈ hb => wpAny_bind (AW.then hb R₈ fun ok s₄ v₄ n₄ R₉ hf => ?_))
    cases ok with
    | false => exact wpAny_pure ⟨rfl, LI.next hlt (out v₄ n₄ s₄ R₉) hf⟩
    | true => exact wpAny_bind (AW.then hf R₉ fun _ s₅ v₅ n₅ R' hI => wpAny_pure ⟨rfl, LI.next hlt (out v₅ n₅ s₅ R') hI⟩)
  · have hin : i = n := Nat.le_antisymm hi (Nat.not_lt.mp hlt)
    subst hin
    refine W.done c.A s₂ _ _ G.han hIt (fun p hp => R₃.has (hIsrc i v₂ n₂ hInv p hp)) fun h₃ tk₃ hk₃ => ?_
    exact wpAny_pure ⟨v₂, n₂, R₃.but w.1 hw w.2.2 hk₃, hInv⟩

theorem AW.tests0i {A B : Vals → Led → Prop} (h : A vals news) : AW c (testsOf c []) vals news fun ok v n => if ok = true then A v n else B v n := AW.tests0 (by rw [if_pos rfl]; exact h)
/-- a clause of a comprehension's, walked to its end -/
inductive Clause (c : Cx) (target : Expr) (ifs : List Expr) (emit : Sem Unit) (Φ : Unit → Vals → Led → Prop) (xv : Value) (v₁ : Vals) (n₁ : Led) : Prop where
  | mk (src : Led) (n : Nat) (P : Nat → Value → Prop) (Inv : Nat → Vals → Led → Prop) (st : StartsS c target xv src n (fun i v tl => P i v ∧ tl = [])) (has : ∀ p ∈ src, HasL c n₁ p) (zero : Inv 0 v₁ n₁) (keep : ∀ i v₂ n₂, Inv i v₂ n₂ → ∀ p ∈ src, HasL c n₂ p)
  (turn : ∀ i (Ψ : Unit → Vals → Led → Prop), (∀ a v n, Inv (i + 1) v n → Ψ a v n) → ∀ v v₂ n₂, i < n → P i v → Inv i v₂ n₂ → AW c (assign target c.env v) v₂ n₂ fun _ v₃ n₃ => AW c (testsOf c ifs) v₃ n₃ fun ok v₄ n₄ => if ok = true then AW c emit v₄ n₄ Ψ else Ψ () v₄ n₄)
  (done : ∀ v₂ n₂, Inv n v₂ n₂ → Φ () v₂ n₂)
theorem AW.emitNext {elt : Expr} {gens : List Comprehension} {scope : Scope} {pos : Pos} {d : Nat} {acc : Value} {x : Str} {px : Pos} {iter : Expr} {ifs : List Expr} {emit : Sem Unit} {Φ : Unit → Vals → Led → Prop} (G : Ok c) (hro : c.ro = false)
    (hf : ∀ x, foldedSetIterable iter c.env x = Pure.pure x)
    (hcs : ∀ it, compStart (.ListComp elt gens scope pos) d it acc c.env = (do
      if (← ask).params.followText "comprehension-iter-twice" then return ← again (.compLoop (.ListComp elt gens scope pos) d it acc c.env)
      rule "comprehension.iter-twice"
      standAt iter.pos
      again (.compLoop (.ListComp elt gens scope pos) d (← pyIter it) acc c.env)))
    (hct : ∀ I : Addr, compTurn (.ListComp elt gens scope pos) d (.ref I) acc c.env = (do
      standAt iter.pos
      match ← pyNext (.ref I) with
      | none => Pure.pure (.done .next)
      | some v =>
        letOwnedTupleGo (.Name x px) (.ref I) v
        assign (.Name x px) c.env v
        let mut ok := true
        for t in ifs do
          if ok then ok ← isTrue t c.env (eval t c.env)
        if ok then
          emit
        again (.compLoop (.ListComp elt gens scope pos) d (.ref I) acc c.env)))
    (h : AW c (eval iter c.env) vals news (Clause c (.Name x px) ifs emit Φ)) :
    AW c (do let x ← eval iter c.env; standAt iter.pos; let x ← foldedSetIterable iter c.env x; let _ ← runOwn (.compStart (.ListComp elt gens scope pos) d (← holding [x] (pyIter x)) acc c.env) c.env) vals news Φ := by
  intro g s R
  refine wpAny_bind (AW.then h R fun xv s₁ v₁ n₁ R₁ l => ?_)
  obtain ⟨src, n, P, Inv, hst, hsrc, hI0, hIsrc, hturn, hdone⟩ := l
  refine wpAny_bind (wpAny_standAt (wpAny_bind ?_))
  rw [hf xv]
  refine wpAny_pure (wpAny_bind (wpAny_holding (hst c.A s₁ _ _ G.han (fun p hp => R₁.has (hsrc p hp)) fun I It Mid h' tk hext hnew hnew2 hit W hself => ?_)))
  have R₂ : Rel c g v₁ n₁ { s₁ with heap := h', toks := tk } := R₁.grow hext
  have loop := AW.compLoop (acc := acc) G hro (hct I) W Inv hIsrc (fun i v tl v₂ n₂ a b d => by
    obtain ⟨b, rfl⟩ := b
    exact hturn i (fun _ => Inv (i + 1)) (fun _ _ _ q => q) v v₂ n₂ a b d) R₂ hI0 hit (R₁.offs fun b m => by rw [List.mem_singleton.mp m]; exact hnew)
  refine wpAny_bind (wpAny_runOwn ?_)
  have key : ∀ {R : Result → Shared → Prop}, (∀ f v n' s', Rel c g v n' s' → Inv n v n' → R (.ok f) s') → codeAny (MD c.w) c.A (.compLoop (.ListComp elt gens scope pos) d (.ref I) acc c.env) R { s₁ with heap := h', toks := tk } := fun k => codeAny_mono loop fun r s' hr => by
    cases r with
    | ok f => obtain ⟨v, n', R', hI⟩ := hr; exact k f v n' s' R' hI
    | error e => exact hr.elim
  have fin : ∀ (f : Flow) v n' s', Rel c g v n' s' → Inv n v n' → wpAny (MD c.w) c.A (Pure.pure ()) (fun a s' => ∃ vals' news', Rel c g vals' news' s' ∧ Φ a vals' news') (fun _ _ => False) s' := fun f v n' s' R' hI => wpAny_pure ⟨v, n', R', hdone v n' hI⟩
  refine codeAny_of_tree ?_
  show wpAny _ c.A ((compStart (.ListComp elt gens scope pos) d (.ref I) acc c.env).onRaise (fun x => do noteFrame x c.env; standAt theWindowsPlace)) _ _ _
  refine wpAny_notedAt ?_
  rw [hcs]
  refine wpAny_bind (wpAny_askSetting (wpAny_ite ?_))
  split
  · first
      | exact wpAny_bind (wpAny_pure (wpAny_pure (And.intro rfl (key fun f v n' s' R' hI => fin f v n' s' R' hI))))
      | exact wpAny_pure (And.intro rfl (key fun f v n' s' R' hI => fin f v n' s' R' hI))
  · refine wpAny_bind (wpAny_rule (wpAny_bind (wpAny_standAt (wpAny_bind (hself c.A 0 _ _ _ hit (fun p hp => R₂.has (hsrc p hp)) ?_)))))
    exact wpAny_pure (And.intro rfl (key fun f v n' s' R' hI => fin f v n' s' R' hI))
end
end Mine
end

section
namespace Mine
open PySem PySem.W PyProof.Rows PySem.Calls

noncomputable abbrev cxI (c : Cx) (scope : Scope) (cl : List (Str × Addr)) (nm : List Str) (C : Addr) (s : Shared) : Cx := { w := c.w, A := c.A, env := compEnvC scope cl C c.env, h₀ := s.heap, s₀ := s, nm := nm, ro := false }
/-- the inside of a comprehension, a frame of its own -/
structure Inn (c : Cx) (scope : Scope) (cl : List (Str × Addr)) (nm : List Str) (n₁ : Led) (C : Addr) (s : Shared) : Prop where
  ok : Ok (cxI c scope cl nm C s)
  base : Ext c.h₀ s.heap
  led : ∀ p ∈ n₁, Has c.w s.heap p
theorem Inn.has {c : Cx} {scope : Scope} {cl : List (Str × Addr)} {nm : List Str} {n₁ : Led} {C : Addr} {s : Shared} (e : Inn c scope cl nm n₁ C s) {p : Addr × MO} (h : HasL c n₁ p) : Has c.w s.heap p := h.elim (e.led p) fun q => q.ext e.base
theorem Inn.hasL {c : Cx} {scope : Scope} {cl : List (Str × Addr)} {nm : List Str} {n₁ news : Led} {C : Addr} {s : Shared} (e : Inn c scope cl nm n₁ C s) {p : Addr × MO} (h : HasL c n₁ p) : HasL (cxI c scope cl nm C s) news p := .inr (e.has h)

/-- the turns of a comprehension's outer clause, in the frame c' -/
inductive CompTurns (c : Cx) (target : Expr) (ifs : List Expr) (emit : Sem Unit) (n : Nat) (P : Nat → Value → Prop) (Fn : Led → Prop) (v₀ : Vals) (n₀ : Led) : Prop where
  | mk (Inv : Nat → Vals → Led → Prop) (zero : Inv 0 v₀ n₀)
  (turn : ∀ i (Ψ : Unit → Vals → Led → Prop), (∀ a v n, Inv (i + 1) v n → Ψ a v n) → ∀ v v₂ n₂, i < n → P i v → Inv i v₂ n₂ → AW c (assign target c.env v) v₂ n₂ fun _ v₃ n₃ => AW c (testsOf c ifs) v₃ n₃ fun ok v₄ n₄ => if ok = true then AW c emit v₄ n₄ Ψ else Ψ () v₄ n₄)
  (done : ∀ v₂ n₂, Inv n v₂ n₂ → Fn n₂)
inductive CompIn (c : Cx) (scope : Scope) (cl : List (Str × Addr)) (nm : List Str) (target : Expr) (ifs : List Expr) (emit : Addr → Addr → Sem Unit) (K : Addr → Vals → Led → Prop) (xv : Value) (v₁ : Vals) (n₁ : Led) : Prop where
  | mk (src : Led) (n : Nat) (P : Nat → Value → Prop) (Fn : Addr → Led → Prop) (st : StartsS c target xv src n (fun i v tl => P i v ∧ tl = [])) (has : ∀ p ∈ src, HasL c n₁ p)
  (inn : ∀ C D s, Inn c scope cl nm n₁ C s → CompTurns (cxI c scope cl nm C s) target ifs (emit C D) n P (Fn D) (nm.map fun _ => none) [(D, .list [])])
  (fin : ∀ D tl, Fn D tl → K D v₁ (tl ++ n₁))
theorem AW.compCore {c : Cx} {g : Heap} {s : Shared} {vals : Vals} {news : Led} {elt iter : Expr} {x : Str} {px : Pos} {ifs : List Expr} {rest : List Comprehension} {scope : Scope} {cl : List (Str × Addr)} {pos pos' : Pos} {emit : Addr → Addr → Sem Unit} {K : Addr → Vals → Led → Prop} {use : Option (Value → Sem Unit)} {Q : Value → Shared → Prop} (nm : List Str) (G : Ok c)
    (hclos : closureFor scope c.env = Pure.pure cl) (hcell : ∀ y ∈ scope.names, y.2 ≠ .cell) (hkind : scope.kind = .function) (hnames : ∀ y ∈ scope.names, y.2 = .local → scope.names.lookup y.1 = some .local) (hs : ∀ x, foldedSetIterable iter c.env x = Pure.pure x) (hnd : nm.Nodup)
    (hct : ∀ C I D : Addr, compTurn (.ListComp elt (⟨.Name x px, iter, ifs, 0⟩ :: rest) scope pos) 0 (.ref I) (.ref D) (compEnvC scope cl C c.env) = (do
      standAt iter.pos
      match ← pyNext (.ref I) with
      | none => Pure.pure (.done .next)
      | some v =>
        letOwnedTupleGo (.Name x px) (.ref I) v
        assign (.Name x px) (compEnvC scope cl C c.env) v
        let mut ok := true
        for t in ifs do
          if ok then ok ← isTrue t (compEnvC scope cl C c.env) (eval t (compEnvC scope cl C c.env))
        if ok then
          emit C D
        again (.compLoop (.ListComp elt (⟨.Name x px, iter, ifs, 0⟩ :: rest) scope pos) 0 (.ref I) (.ref D) (compEnvC scope cl C c.env))))
    (h : AW c (eval iter c.env) vals news (CompIn c scope cl nm (.Name x px) ifs emit K)) (R : Rel c g vals news s)
    (post : ∀ C D v n' s' f, (∃ m, s'.heap.Ns C m) → Rel c g v n' s' → C ∉ c.env.locals :: n'.map (·.1) → g.get? C = none → K D v n' → compPost (MD c.w) c.A (fun _ _ => False) use Q (.ref D) C (.ok f) s') :
    wpAny (MD c.w) c.A (comprehension (.ListComp elt (⟨.Name x px, iter, ifs, 0⟩ :: rest) scope pos) scope c.env pos' (newList []) false (eval iter c.env) use) Q (fun _ _ => False) s := by
  refine wpAny_comprehension_free (use := use) rfl hs hclos hkind hnames (AW.then h R fun xv s₁ v₁ n₁ R₁ l => ?_)
  obtain ⟨src, n, P, Fn, hst, hsrc, hin, hfin⟩ := l
  refine hst c.A s₁ _ _ G.han (fun p hp => R₁.has (hsrc p hp)) fun I It Mid h' tk hext hnew hnew2 hit W hself => ?_
  refine wpAny_newObj_type (wpAny_newFunctionEnv hcell (by intro y hy; simp at hy) (fun h₁ hns₁ hsb₁ => ?_) hkind)
  dsimp only at hns₁ hsb₁ ⊢
  generalize hH2 : h'.push { cls := .type "list", dict := none, data := .seq ([] : List Value).toArray } = H2 at hns₁ hsb₁ ⊢
  have hC : H2.objs.size = h'.objs.size + 1 := by rw [← hH2, Heap.size_push]
  have old : Ext h' h₁ := fun b o e => hsb₁.extBut b o (by rw [hC]; exact Nat.ne_of_lt (Nat.lt_succ_of_lt (Heap.lt_size e))) (Heap.get?_push_of_some _ (hH2 ▸ Heap.get?_push_of_some _ e))
  have hDC : h'.objs.size ≠ H2.objs.size := by rw [hC]; exact Nat.ne_of_lt (Nat.lt_succ_self _)
  have hD : h₁.get? h'.objs.size = some { cls := .type "list", data := .seq ([] : List Value).toArray } := hsb₁.extBut _ _ hDC (Heap.get?_push_of_some _ (hH2 ▸ Heap.get?_push_size _ rfl))
  have nH : ∀ a, h'.objs.size ≤ a → s₁.heap.get? a = none ∧ a ≠ I := fun a ha => by
    refine ⟨?_, fun e => ?_⟩
    · cases q : s₁.heap.get? a with
      | none => rfl
      | some o => exact absurd (Heap.lt_size (hext _ _ q)) (Nat.not_lt.mpr ha)
    · obtain ⟨o, ho⟩ := hnew2
      exact absurd (Heap.lt_size ho) (Nat.not_lt.mpr (e ▸ ha))
  have nD := nH _ (Nat.le_refl _)
  have nC := nH H2.objs.size (by rw [hC]; exact Nat.le_succ _)
  generalize H2.objs.size = C at hns₁ hDC nC ⊢
  generalize h'.objs.size = D at hD hDC nD ⊢
  clear hsb₁ hH2 hC
  have inn : Inn c scope cl nm n₁ C s₁ := ⟨⟨G.han, G.top.ext (R₁.base.trans R₁.keep), G.glo, G.blt, hkind, hnd⟩, R₁.base.trans R₁.keep, R₁.led⟩
  obtain ⟨Inv, hI0, hturn, hend⟩ := hin C D s₁ inn
  have R₀ : ∀ tk', Rel (cxI c scope cl nm C s₁) s₁.heap (nm.map fun _ => none) [(D, .list [])] { s₁ with heap := h₁, toks := tk' } := fun tk' => by
    refine ⟨⟨h₁, _, rfl⟩, Ext.refl _, hext.trans old, ⟨_, hns₁, fun i y v _ h2 => ?_, fun _ _ _ e => nomatch e⟩, ?_, ?_, ?_, nC.1⟩
    · rw [List.getElem?_map] at h2
      cases q : nm[i]? with
      | none => rw [q] at h2; cases h2
      | some z => rw [q] at h2; cases h2
    · intro p hp
      rw [List.mem_singleton.mp hp]
      exact ⟨_, hD, ⟨0, rfl⟩, trivial⟩
    · show [C, D].Nodup
      simp [hDC.symm]
    · intro p hp
      rw [List.mem_singleton.mp hp]
      exact nD.1
  have hit₁ : It 0 h₁ := W.frame 0 _ _ hit fun b hb o e => old b o e
  have loop : ∀ tk', codeAny (MD c.w) c.A (.compLoop (.ListComp elt (⟨.Name x px, iter, ifs, 0⟩ :: rest) scope pos) 0 (.ref I) (.ref D) (compEnvC scope cl C c.env)) (compPost (MD c.w) c.A (fun _ _ => False) use Q (.ref D) C) { s₁ with heap := h₁, toks := tk' } := fun tk' => by
    refine codeAny_mono (AW.compLoop (c := cxI c scope cl nm C s₁) (acc := .ref D) inn.ok rfl (hct _ _ _) ⟨W.alive, W.aliveM, W.frame, W.item, W.lg, W.done⟩ Inv (fun i v₂ n₂ _ p hp => inn.hasL (hsrc p hp)) (fun i v tl v₂ n₂ a b d => by
      obtain ⟨b, rfl⟩ := b
      exact hturn i (fun _ => Inv (i + 1)) (fun _ _ _ q => q) v v₂ n₂ a b d) (R₀ tk') hI0 hit₁
      ⟨fun m => nC.2 (List.mem_singleton.mp m), fun p hp m => by rw [List.mem_singleton.mp hp] at m; exact nD.2 (List.mem_singleton.mp m), fun b m => by rw [List.mem_singleton.mp m]; exact hnew⟩) fun r s' hr => ?_
    cases r with
    | error e => exact hr.elim
    | ok f =>
      obtain ⟨v, n', R', hI⟩ := hr
      have hF := hend v n' hI
      obtain ⟨hh, tt, e⟩ := R'.same
      have e : s' = { s₁ with heap := hh, toks := tt } := e
      subst e
      have nd := List.nodup_cons.mp R'.apart
      refine post C D v₁ (n' ++ n₁) _ f (R'.ns.imp fun _ q => q.1) (R₁.addNew (R₁.grow R'.keep) nd.2 fun p hp => ⟨R'.led p hp, R'.fresh p hp⟩) (fun q => ?_) (R₁.off nC.1).2 (hfin _ n' hF)
      rw [List.map_append] at q
      rcases List.mem_cons.mp q with q | q
      · exact (R₁.off nC.1).1 (by rw [q]; exact List.mem_cons_self)
      · rcases List.mem_append.mp q with q | q
        · exact nd.1 q
        · exact (R₁.off nC.1).1 (List.mem_cons_of_mem _ q)
  exact codeAny_compStart_list (loop _) (hself c.A 0 _ _ _ hit₁ (fun p hp => (R₁.has (hsrc p hp)).ext (hext.trans old)) (loop _))
theorem AW.compL {c : Cx} {vals : Vals} {news : Led} {elt iter : Expr} {x : Str} {px : Pos} {ifs : List Expr} {rest : List Comprehension} {scope : Scope} {cl : List (Str × Addr)} {pos : Pos} {emit : Addr → Addr → Sem Unit} {Φ : Value → Vals → Led → Prop} (nm : List Str) (G : Ok c)
    (hclos : closureFor scope c.env = Pure.pure cl) (hcell : ∀ y ∈ scope.names, y.2 ≠ .cell) (hkind : scope.kind = .function) (hnames : ∀ y ∈ scope.names, y.2 = .local → scope.names.lookup y.1 = some .local) (hs : ∀ x, foldedSetIterable iter c.env x = Pure.pure x) (hnd : nm.Nodup)
    (hct : ∀ C I D : Addr, compTurn (.ListComp elt (⟨.Name x px, iter, ifs, 0⟩ :: rest) scope pos) 0 (.ref I) (.ref D) (compEnvC scope cl C c.env) = (do
      standAt iter.pos
      match ← pyNext (.ref I) with
      | none => Pure.pure (.done .next)
      | some v =>
        letOwnedTupleGo (.Name x px) (.ref I) v
        assign (.Name x px) (compEnvC scope cl C c.env) v
        let mut ok := true
        for t in ifs do
          if ok then ok ← isTrue t (compEnvC scope cl C c.env) (eval t (compEnvC scope cl C c.env))
        if ok then
          emit C D
        again (.compLoop (.ListComp elt (⟨.Name x px, iter, ifs, 0⟩ :: rest) scope pos) 0 (.ref I) (.ref D) (compEnvC scope cl C c.env))))
    (h : AW c (eval iter c.env) vals news (CompIn c scope cl nm (.Name x px) ifs emit fun D => Φ (.ref D))) :
    AW c (eval (.ListComp elt (⟨.Name x px, iter, ifs, 0⟩ :: rest) scope pos) c.env) vals news Φ := by
  intro g s R
  rw [eval_ListComp]
  refine AW.compCore (use := none) nm G hclos hcell hkind hnames hs hnd hct h R fun C D v n' s' f hn R₂ hC hg hK => ?_
  refine hn.imp fun m hm => ⟨hm, fun h'' hs'' => ⟨v, n', R₂.but (wr := [C]) (tk := s'.toks) (fun q => hC (List.mem_singleton.mp q ▸ List.mem_cons_self)) (fun p hp q => hC (List.mem_singleton.mp q ▸ List.mem_cons_of_mem _ (List.mem_map_of_mem hp)))
    (fun b hb => by rw [List.mem_singleton.mp hb]; exact hg) fun b o hb q => hs''.extBut b o (fun z => hb (by simp [z])) q, hK⟩⟩
end Mine
end

section
namespace Mine
open PySem PySem.W PyProof.Rows PySem.Calls

theorem AW.enumL {c : Cx} {vals : Vals} {news : Led} {l : Addr} {its : List Value} {Φ : Value → Vals → Led → Prop} (hl : HasL c news (l, .list its))
    (h : ∀ e it oe oi, (∀ h : Heap, h.get? e = some oe → IsEnum h e it 0 .none) → (∀ h : Heap, h.get? it = some oi → h.IsListIter it l 0) → e ≠ it → Φ (.ref e) vals ((e, .raw oe) :: (it, .raw oi) :: news)) : AW c (call (.type "enumerate") [.ref l]) vals news Φ := by
  intro g s R
  obtain ⟨o, ho, ⟨n, rfl⟩, _⟩ := R.has hl
  refine call_enumerate_list ⟨_, ho, rfl, n, rfl⟩ fun h' he hi hsz hk => ?_
  obtain ⟨oi, hoi, hi1, hi2⟩ := hi
  have R' : Rel c g vals news { s with heap := h' } := R.grow (tk := s.toks) hk
  have ne : s.heap.objs.size + 1 ≠ s.heap.objs.size := Nat.succ_ne_self _
  have n1 : s.heap.get? (s.heap.objs.size + 1) = none := get_none_of_size _ _ (Nat.le_succ _)
  have n2 : s.heap.get? s.heap.objs.size = none := get_none_of_size _ _ (Nat.le_refl _)
  have ng : ∀ a, s.heap.get? a = none → g.get? a = none := fun a ha => by
    cases q : g.get? a with
    | none => rfl
    | some o => have := R.keep _ _ q; rw [ha] at this; cases this
  have nl : ∀ a, s.heap.get? a = none → a ∉ c.env.locals :: news.map (·.1) := fun a ha m => by
    obtain ⟨o, ho⟩ := R.lives _ m
    rw [ha] at ho; cases ho
  refine ⟨vals, _, R'.add (tl := [(s.heap.objs.size + 1, .raw _), (s.heap.objs.size, .raw oi)]) (by simp) ?_, h _ _ _ oi (fun h q => q) (fun h q => ⟨oi, q, hi1, hi2⟩) ne⟩
  intro p hp
  rcases List.mem_cons.mp hp with rfl | hp
  · exact ⟨⟨_, he, rfl, trivial⟩, nl _ n1, ng _ n1⟩
  · rw [List.mem_singleton.mp hp]
    exact ⟨⟨oi, hoi, rfl, trivial⟩, nl _ n2, ng _ n2⟩

theorem walk_enum {c : Cx} {elts : List Expr} {k : Nat} {pos : Pos} {e it l : Addr} {its : List Value} (hne : e ≠ it) :
    WalkOn c (.Tuple elts k pos) e [e, it] [(l, .list its)] its.length (fun i v tl => ∃ t a x, its[i]? = some x ∧ v = .ref a ∧ tl = [(a, .tup [.int (i : Nat) t, x])])
      (fun i h => (∃ old, IsEnum h e it (i : Nat) old) ∧ h.IsListIter it l i) (fun i v h => (∃ x a, v = Value.ref a ∧ IsEnumOut h e it (i : Nat) x a) ∧ h.IsListIter it l i) := by
  have lst : ∀ s' : Shared, (∀ p ∈ [(l, MO.list its)], Has c.w s'.heap p) → s'.heap.IsList l its.toArray := fun s' h => by
    obtain ⟨o, ho, ⟨n, hm⟩, _⟩ := h (l, .list its) (by simp)
    exact ⟨o, ho, by rw [hm], n, by rw [hm]⟩
  constructor
  · rintro i h ⟨⟨old, h1⟩, o, ho, _⟩ b hb
    rcases List.mem_cons.mp hb with rfl | hb
    · exact ⟨_, h1⟩
    · rw [List.mem_singleton.mp hb]; exact ⟨o, ho⟩
  · rintro i v h ⟨⟨x, a, _, h1⟩, o, ho, _⟩ b hb
    rcases List.mem_cons.mp hb with rfl | hb
    · exact ⟨_, h1⟩
    · rw [List.mem_singleton.mp hb]; exact ⟨o, ho⟩
  · rintro i h h' ⟨⟨old, h1⟩, o, ho, r⟩ hk
    exact ⟨⟨old, hk _ (by simp) _ h1⟩, o, hk _ (by simp) _ ho, r⟩
  · rintro A i s Q E hA hi ⟨⟨old, h1⟩, h2⟩ hs hq
    refine wpAny_pyNext_enum_item h1 h2 (lst s hs) (x := its[i]) (by simp [hi]) hne fun h' heo hit' ht hsz hk => ?_
    refine hq _ [(s.heap.objs.size, .tup [.int (i : Nat) s.toks, its[i]])] h' _ ⟨_, _, _, by simp [hi], rfl, rfl⟩ (by simp) ?_ ⟨⟨_, _, rfl, heo⟩, hit'⟩ fun b o hb q => hk b o (fun z => hb (by simp [z])) (fun z => hb (by simp [z])) q
    intro p hp
    rw [List.mem_singleton.mp hp]
    exact ⟨⟨_, ht, ⟨0, rfl⟩, trivial⟩, get_none_of_size _ _ (Nat.le_refl _)⟩
  · rintro A i v s Q E ⟨⟨x, a, rfl, h1⟩, h2⟩ hq
    refine wpAny_letOwnedTupleGo_enum h1 fun h' he hs => ?_
    refine hq h' ⟨⟨_, he⟩, ?_⟩ fun b o hb q => hs.extBut b o (fun z => hb (by simp [z])) q
    obtain ⟨o, ho, r⟩ := h2
    exact ⟨o, hs.extBut _ _ hne.symm ho, r⟩
  · rintro A s Q E hA ⟨⟨old, h1⟩, h2⟩ hs hq
    exact wpAny_pyNext_enum_end hA h1 h2 (lst s hs) (by simp) fun h' he => hq h' s.toks fun b o hb q => he b o (fun z => hb (by simp [z])) q

inductive EnumLoop (c : Cx) (elts : List Expr) (k : Nat) (tp : Pos) (body : List Stmt) (Φ : Flow → Vals → Led → Prop) (xv : Value) (v₁ : Vals) (n₀ : Led) : Prop where
  | mk (e it : Addr) (oe oi : Obj) (l : Addr) (its : List Value) (n₁ : Led) (hx : xv = .ref e) (hn : n₀ = (e, .raw oe) :: (it, .raw oi) :: n₁) (hE : ∀ h : Heap, h.get? e = some oe → IsEnum h e it 0 .none) (hI : ∀ h : Heap, h.get? it = some oi → h.IsListIter it l 0) (hne : e ≠ it)
  (Inv : Nat → Vals → Led → Prop) (zero : Inv 0 v₁ n₁) (keep : ∀ i v₂ n₂, Inv i v₂ n₂ → HasL c n₂ (l, .list its))
  (turn : ∀ i (Ψ : Flow → Vals → Led → Prop), (∀ f v n, Turn (Inv (i + 1)) Φ f v n → Ψ f v n) → ∀ a t x v₂ n₂, its[i]? = some x → Inv i v₂ n₂ → AW c (assign (.Tuple elts k tp) c.env (.ref a)) v₂ ((a, .tup [.int (i : Nat) t, x]) :: n₂) fun _ v₃ n₃ => AW c (execs body c.env) v₃ n₃ Ψ)
  (done : ∀ v₂ n₂, Inv its.length v₂ n₂ → Φ .next v₂ n₂)
theorem AW.forEnum {c : Cx} {vals : Vals} {news : Led} {elts : List Expr} {k : Nat} {tp : Pos} {iter : Expr} {body : List Stmt} {pos : Pos} {Φ : Flow → Vals → Led → Prop} (G : Ok c) (hro : c.ro = false) (hf : ∀ x, foldedSetIterable iter c.env x = Pure.pure x)
    (h : AW c (eval iter c.env) vals news (EnumLoop c elts k tp body Φ)) : AW c (exec (.For (.Tuple elts k tp) iter body [] pos) c.env) vals news Φ := by
  intro g s R
  refine wpAny_For (AW.then h R fun xv s₁ v₁ n₀ R₀ l => ?_) hf
  obtain ⟨e, it, oe, oi, l, its, n₁, e1, e2, hE, hI, hne, Inv, hI0, hIsrc, hturn, hdone⟩ := l
  subst e1 e2
  have Ae : s₁.heap.get? e = some oe := by obtain ⟨o, ho, q, _⟩ := R₀.led (e, .raw oe) List.mem_cons_self; have q : o = oe := q; rw [← q]; exact ho
  have Ai : s₁.heap.get? it = some oi := by obtain ⟨o, ho, q, _⟩ := R₀.led (it, .raw oi) memL1; have q : o = oi := q; rw [← q]; exact ho
  refine wpAny_pyIter_enum (hE _ Ae) ?_
  have ap := R₀.apart
  simp only [List.map_cons, List.nodup_cons, List.mem_cons, not_or] at ap
  have mem2 : ∀ {b : Addr}, b ∈ [e, it] → b = e ∨ b = it := fun m => (List.mem_cons.mp m).imp id List.mem_singleton.mp
  refine codeAny_mono (AW.turns G hro (walk_enum (c := c) (elts := elts) (k := k) (pos := tp) (l := l) (its := its) hne) (fun i v₂ n₂ h p hp => by rw [List.mem_singleton.mp hp]; exact hIsrc i v₂ n₂ h) (fun i v tl v₂ n₂ hi hp hI => ?_) hdone
    (R₀.drop (.cons _ (.cons _ (.refl _)))) hI0 ⟨⟨_, hE _ Ae⟩, hI _ Ai⟩ (fun m => (mem2 m).elim ap.1.1 ap.1.2.1) (fun p hp m => ?_) fun b m => ?_) fun r s' q => ?_
  · obtain ⟨t, a, x, hx, rfl, rfl⟩ := hp
    exact hturn i _ (fun _ _ _ q => q) a t x v₂ n₂ hx hI
  · have hp' : p.1 ∈ n₁.map (·.1) := List.mem_map_of_mem (f := (·.1)) hp
    exact (mem2 m).elim (fun m => ap.2.1.2 (m ▸ hp')) fun m => ap.2.2.1 (m ▸ hp')
  · rcases mem2 m with rfl | rfl
    · exact R₀.fresh (b, .raw oe) List.mem_cons_self
    · exact R₀.fresh (b, .raw oi) memL1
  · cases r with
    | ok f => exact q
    | error e => exact q.elim
end Mine
end

section
namespace Mine
open PySem PySem.W PyProof.Rows PySem.Calls

/-- fewer values known -/
inductive WkV : Vals → Vals → Prop where
  | nil : WkV [] []
  | drop {o a b} : WkV a b → WkV (none :: a) (o :: b)
  | keep {o a b} : WkV a b → WkV (o :: a) (o :: b)
theorem WkV.get {a b : Vals} (h : WkV a b) : ∀ (i : Nat) (v : Value), a[i]? = some (some v) → b[i]? = some (some v) := by
  induction h with
  | nil => intro i v e; simp at e
  | drop _ ih =>
    intro i v e
    cases i with
    | zero => simp at e
    | succ i => simpa using ih i v (by simpa using e)
  | keep _ ih =>
    intro i v e
    cases i with
    | zero => simpa using e
    | succ i => simpa using ih i v (by simpa using e)
theorem WkV.refl : ∀ a : Vals, WkV a a
  | [] => .nil
  | _ :: a => .keep (WkV.refl a)
theorem Rel.forget {c : Cx} {g : Heap} {vals vals' : Vals} {news : Led} {s : Shared} (R : Rel c g vals news s) (h : WkV vals' vals) : Rel c g vals' news s :=
  ⟨R.same, R.base, R.keep, let ⟨m, a, b⟩ := R.ns; ⟨m, a, fun i x v h1 h2 => b.1 i x v h1 (h.get i v h2), b.2⟩, R.led, R.apart, R.fresh, R.frame⟩
/-- at the end: fewer values, fewer objects -/
inductive Wk {α : Type} (Φ : α → Vals → Led → Prop) (a : α) (v : Vals) (n : Led) : Prop where
  | mk (v' : Vals) (n' : Led) (hv : WkV v' v) (hs : n'.Sublist n) (p : Φ a v' n')
inductive WkP {α : Type} (Φ : α → Vals → Led → Prop) (a : α) (v : Vals) (n : Led) : Prop where
  | mk (v' : Vals) (l n' : Led) (hv : WkV v' v) (hs : l.Sublist n) (hp : n'.Perm l) (p : Φ a v' n')
section
variable {α : Type} {c : Cx} {vals : Vals} {news : Led} {t : Sem α} {Φ Φ' : α → Vals → Led → Prop}
theorem AW.wk (h : AW c t vals news (Wk Φ)) : AW c t vals news Φ :=
  fun g s R => AW.then h R fun a s' v n r q => let ⟨v', n', hv, hs, p⟩ := q; ⟨v', n', (r.drop hs).forget hv, p⟩
theorem AW.wkP (h : AW c t vals news (WkP Φ)) : AW c t vals news Φ :=
  fun g s R => AW.then h R fun a s' v n r q => let ⟨v', l, n', hv, hs, hp, p⟩ := q; ⟨v', n', ((r.drop hs).perm hp).forget hv, p⟩
theorem AW.wkH (k : ∀ a v n, Φ a v n → Φ' a v n) (h : ∀ Ψ : α → Vals → Led → Prop, (∀ a v n, Wk Φ a v n → Ψ a v n) → AW c t vals news Ψ) : AW c t vals news Φ' :=
  (AW.wk (h _ fun _ _ _ q => q)).mono k
theorem AW.wkPH (k : ∀ a v n, Φ a v n → Φ' a v n) (h : ∀ Ψ : α → Vals → Led → Prop, (∀ a v n, WkP Φ a v n → Ψ a v n) → AW c t vals news Ψ) : AW c t vals news Φ' :=
  (AW.wkP (h _ fun _ _ _ q => q)).mono k
end
theorem AW.from {α : Type} {c : Cx} {vals vals' : Vals} {news news' : Led} {t : Sem α} {Φ : α → Vals → Led → Prop} (hv : WkV vals' vals) (hs : news'.Sublist news) (h : AW c t vals' news' Φ) : AW c t vals news Φ :=
  fun g s R => h g s ((R.drop hs).forget hv)
/-- a statement list in two parts -/
theorem AW.stmt {c : Cx} {vals : Vals} {news : Led} {st : Stmt} {rest : List Stmt} {Φ : Flow → Vals → Led → Prop} {Ψ : Vals → Led → Prop}
    (h : AW c (exec st c.env) vals news fun f v n => f = .next ∧ Ψ v n) (k : ∀ v n, Ψ v n → AW c (execs rest c.env) v n Φ) : AW c (execs (st :: rest) c.env) vals news Φ :=
  AW.cons0 (h.mono fun f v n ⟨e, p⟩ => by subst e; exact k v n p)

/-! fewer names -/
inductive LookAll (ns : List Str) (vs : Vals) : List Str → Vals → Prop where
  | nil : LookAll ns vs [] []
  | no {x ns' vs'} : LookAll ns vs ns' vs' → LookAll ns vs (x :: ns') (none :: vs')
  | has {x v ns' vs'} : LookV ns vs x v → LookAll ns vs ns' vs' → LookAll ns vs (x :: ns') (some v :: vs')
theorem LookAll.get {ns : List Str} {vs : Vals} {ns' : List Str} {vs' : Vals} (h : LookAll ns vs ns' vs') : ∀ (i : Nat) (x : Str) (v : Value), ns'[i]? = some x → vs'[i]? = some (some v) → LookV ns vs x v := by
  induction h with
  | nil => intro i x v h1 _; simp at h1
  | no _ ih =>
    intro i x v h1 h2
    cases i with
    | zero => simp at h2
    | succ i => exact ih i x v (by simpa using h1) (by simpa using h2)
  | has e _ ih =>
    intro i x v h1 h2
    cases i with
    | zero => simp at h1 h2; rw [← h1, ← h2]; exact e
    | succ i => exact ih i x v (by simpa using h1) (by simpa using h2)
/-- the values after a part that knew the names ns' alone -/
inductive Back (ns' : List Str) (v : Vals) : List Str → Vals → Vals → Prop where
  | nil : Back ns' v [] [] []
  | drop {x ns o vs V} : Back ns' v ns vs V → Back ns' v (x :: ns) (o :: vs) (none :: V)
  | keep {x ns o vs V} : x ∉ ns' → Back ns' v ns vs V → Back ns' v (x :: ns) (o :: vs) (o :: V)
  | new {x u ns o vs V} : LookV ns' v x u → Back ns' v ns vs V → Back ns' v (x :: ns) (o :: vs) (some u :: V)
theorem Back.get {ns' : List Str} {v : Vals} {ns : List Str} {vs V : Vals} (h : Back ns' v ns vs V) : ∀ (i : Nat) (x : Str) (u : Value), ns[i]? = some x → V[i]? = some (some u) → (x ∉ ns' ∧ vs[i]? = some (some u)) ∨ LookV ns' v x u := by
  induction h with
  | nil => intro i x u h1 _; simp at h1
  | drop _ ih =>
    intro i x u h1 h2
    cases i with
    | zero => simp at h2
    | succ i => exact ih i x u (by simpa using h1) (by simpa using h2)
  | keep e _ ih =>
    intro i x u h1 h2
    cases i with
    | zero => simp at h1 h2; subst h1 h2; exact .inl ⟨e, rfl⟩
    | succ i => exact ih i x u (by simpa using h1) (by simpa using h2)
  | new e _ ih =>
    intro i x u h1 h2
    cases i with
    | zero => simp at h1 h2; subst h1 h2; exact .inr e
    | succ i => exact ih i x u (by simpa using h1) (by simpa using h2)
/-- what runs in a frame of which only the names nm are looked at -/
noncomputable abbrev Cx.nar (c : Cx) (nm : List Str) (old : Str → Option Value) : Cx := { c with nm := nm, old := old }
theorem Ok.nar {c : Cx} {nm : List Str} {old : Str → Option Value} (G : Ok c) (nd : nm.Nodup) : Ok (c.nar nm old) := ⟨G.han, G.top, G.glo, G.blt, G.kind, nd⟩
theorem AW.nar {α : Type} {c : Cx} {t : Sem α} {vals vals' : Vals} {news : Led} {Φ : α → Vals → Led → Prop} {nm' : List Str} (hs : ∀ x ∈ nm', x ∈ c.nm) (hv : LookAll c.nm vals nm' vals')
    (h : ∀ old, AW (c.nar nm' old) t vals' news fun a v n => ∃ V, Back nm' v c.nm vals V ∧ Φ a V n) : AW c t vals news Φ := by
  intro g s R
  obtain ⟨m, hn, h1, h2⟩ := R.ns
  have R' : Rel (c.nar nm' m) g vals' news s := ⟨R.same, R.base, R.keep, ⟨m, hn, fun i x v a b => by
    obtain ⟨j, e1, e2⟩ := (hv.get i x v a b).idx
    exact h1 j x v e1 e2, fun _ _ _ q => q⟩, R.led, R.apart, R.fresh, R.frame⟩
  refine AW.then (h m) R' fun a s' v n r q => ?_
  obtain ⟨V, hb, hΦ⟩ := q
  obtain ⟨m', hn', h3, h4⟩ := r.ns
  refine ⟨V, n, ⟨r.same, r.base, r.keep, ⟨m', hn', fun i x u e1 e2 => ?_, fun x u e1 e2 => h4 x u (fun q => e1 (hs x q)) (h2 x u e1 e2)⟩, r.led, r.apart, r.fresh, r.frame⟩, hΦ⟩
  rcases hb.get i x u e1 e2 with ⟨q1, q2⟩ | q
  · exact h4 x u q1 (h1 i x u e1 q2)
  · obtain ⟨j, e3, e4⟩ := q.idx
    exact h3 j x u e3 e4
end Mine
end

section
namespace Mine
open PySem PySem.W PyProof.Rows PySem.Calls

/-- a name that a comprehension of this frame is put into -/
theorem AW.asgCompL {c : Cx} {vals : Vals} {news : Led} {elt iter : Expr} {x : Str} {px : Pos} {ifs : List Expr} {rest : List Comprehension} {scope : Scope} {cl : List (Str × Addr)} {pos : Pos} {emit : Addr → Addr → Sem Unit} {y : Str} {py spos : Pos} {Φ : Flow → Vals → Led → Prop} (hro : c.ro = false)
    (hsw : swapsWith (.ListComp elt (⟨.Name x px, iter, ifs, 0⟩ :: rest) scope pos) (some (.Name y py)) spos.line c.env = Pure.pure true) (nm : List Str) (G : Ok c)
    (hclos : closureFor scope c.env = Pure.pure cl) (hcell : ∀ y ∈ scope.names, y.2 ≠ .cell) (hkind : scope.kind = .function) (hnames : ∀ y ∈ scope.names, y.2 = .local → scope.names.lookup y.1 = some .local) (hs : ∀ x, foldedSetIterable iter c.env x = Pure.pure x) (hnd : nm.Nodup)
    (hct : ∀ C I D : Addr, compTurn (.ListComp elt (⟨.Name x px, iter, ifs, 0⟩ :: rest) scope pos) 0 (.ref I) (.ref D) (compEnvC scope cl C c.env) = (do
      standAt iter.pos
      match ← pyNext (.ref I) with
      | none => Pure.pure (.done .next)
      | some v =>
        letOwnedTupleGo (.Name x px) (.ref I) v
        assign (.Name x px) (compEnvC scope cl C c.env) v
        let mut ok := true
        for t in ifs do
          if ok then ok ← isTrue t (compEnvC scope cl C c.env) (eval t (compEnvC scope cl C c.env))
        if ok then
          emit C D
        again (.compLoop (.ListComp elt (⟨.Name x px, iter, ifs, 0⟩ :: rest) scope pos) 0 (.ref I) (.ref D) (compEnvC scope cl C c.env))))
    (h : AW c (eval iter c.env) vals news (CompIn c scope cl nm (.Name x px) ifs emit fun D v n => AW c (assign (.Name y py) c.env (.ref D)) v n fun _ => Φ .next)) :
    AW c (exec (.Assign [.Name y py] (.ListComp elt (⟨.Name x px, iter, ifs, 0⟩ :: rest) scope pos) spos) c.env) vals news Φ := by
  intro g s R
  rw [exec_Assign_Name_used _ _ _ _ hsw]
  refine wpAny_bind (wpAny_standAt (wpAny_bind ?_))
  show wpAny _ c.A (do let _ ← comprehension (.ListComp elt (⟨.Name x px, iter, ifs, 0⟩ :: rest) scope pos) scope c.env _ (newList []) false (eval iter c.env) (some (assign (.Name y py) c.env))) _ _ s
  refine wpAny_bind (wpAny_mono (AW.compCore (use := some (assign (.Name y py) c.env)) (Q := fun _ s' => ∃ vals' news', Rel c g vals' news' s' ∧ Φ .next vals' news') nm G hclos hcell hkind hnames hs hnd hct h R fun C D v n' s' f hn R₂ hC hg hK => ?_) (fun _ s' hq => wpAny_pure (wpAny_pure hq)) fun _ _ e => e)
  obtain ⟨m, hn⟩ := hn
  obtain ⟨oC, hoC⟩ : ∃ o, s'.heap.get? C = some o := by obtain ⟨o, _, _, ho, _⟩ := hn; exact ⟨o, ho⟩
  obtain ⟨g', hg', R₃, hin⟩ := R₂.rebase hro
  have gC : g'.get? C = some oC := hin _ _ hoC hC
  show wpAny _ c.A (assign (.Name y py) c.env (.ref D)) _ _ _
  refine AW.then hK R₃ fun _ s'' v'' n'' R₄ hΦ => ⟨m, hn.at' fun o e => ?_, fun h'' hs'' => ⟨v'', n'', (R₄.unbase hro hg' R₂.base).but (wr := [C]) (tk := s''.toks) (fun q => ?_) (fun p hp q => ?_) (fun b hb => ?_) fun b o hb q => hs''.extBut b o (fun z => hb (by simp [z])) q, hΦ⟩⟩
  · rw [← Option.some.inj (hoC.symm.trans e)]; exact R₄.keep _ _ gC
  · exact hC (List.mem_singleton.mp q ▸ List.mem_cons_self)
  · have := R₄.fresh p hp
    rw [List.mem_singleton.mp q, gC] at this; cases this
  · rw [List.mem_singleton.mp hb]; exact hg
end Mine
end

section
namespace Mine
open PySem PySem.W PyProof.Rows PySem.Calls

section
variable {elt iter iter2 : Expr} {x x2 : Str} {px px2 : Pos} {ifs ifs2 : List Expr} {scope : Scope} {pos : Pos}
noncomputable abbrev emitOne (elt : Expr) (acc : Value) (env : Env) : Sem Unit := do let _ ← call (.builtin "list.append") [acc, ← eval elt env]
noncomputable abbrev emitTwo (elt : Expr) (gens : List Comprehension) (scope : Scope) (pos : Pos) (iter2 : Expr) (acc : Value) (env : Env) : Sem Unit := do
  let x ← eval iter2 env; standAt iter2.pos; let x ← foldedSetIterable iter2 env x; let _ ← runOwn (.compStart (.ListComp elt gens scope pos) 1 (← holding [x] (pyIter x)) acc env) env
theorem ct1 (I : Addr) (acc : Value) (env : Env) : compTurn (.ListComp elt [⟨.Name x px, iter, ifs, 0⟩] scope pos) 0 (.ref I) acc env = (do
      standAt iter.pos
      match ← pyNext (.ref I) with
      | none => Pure.pure (.done .next)
      | some v =>
        letOwnedTupleGo (.Name x px) (.ref I) v
        assign (.Name x px) env v
        let mut ok := true
        for t in ifs do
          if ok then ok ← isTrue t env (eval t env)
        if ok then
          emitOne elt acc env
        again (.compLoop (.ListComp elt [⟨.Name x px, iter, ifs, 0⟩] scope pos) 0 (.ref I) acc env)) := rfl
theorem ct2 (I : Addr) (acc : Value) (env : Env) : compTurn (.ListComp elt [⟨.Name x px, iter, ifs, 0⟩, ⟨.Name x2 px2, iter2, ifs2, 0⟩] scope pos) 0 (.ref I) acc env = (do
      standAt iter.pos
      match ← pyNext (.ref I) with
      | none => Pure.pure (.done .next)
      | some v =>
        letOwnedTupleGo (.Name x px) (.ref I) v
        assign (.Name x px) env v
        let mut ok := true
        for t in ifs do
          if ok then ok ← isTrue t env (eval t env)
        if ok then
          emitTwo elt [⟨.Name x px, iter, ifs, 0⟩, ⟨.Name x2 px2, iter2, ifs2, 0⟩] scope pos iter2 acc env
        again (.compLoop (.ListComp elt [⟨.Name x px, iter, ifs, 0⟩, ⟨.Name x2 px2, iter2, ifs2, 0⟩] scope pos) 0 (.ref I) acc env)) := by
  simp only [emitTwo, bind_assoc, pure_bind]
  rfl
theorem ct3 (g : Comprehension) (I : Addr) (acc : Value) (env : Env) : compTurn (.ListComp elt [g, ⟨.Name x2 px2, iter2, ifs2, 0⟩] scope pos) 1 (.ref I) acc env = (do
      standAt iter2.pos
      match ← pyNext (.ref I) with
      | none => Pure.pure (.done .next)
      | some v =>
        letOwnedTupleGo (.Name x2 px2) (.ref I) v
        assign (.Name x2 px2) env v
        let mut ok := true
        for t in ifs2 do
          if ok then ok ← isTrue t env (eval t env)
        if ok then
          emitOne elt acc env
        again (.compLoop (.ListComp elt [g, ⟨.Name x2 px2, iter2, ifs2, 0⟩] scope pos) 1 (.ref I) acc env)) := rfl
theorem cs3 (g : Comprehension) (it acc : Value) (env : Env) : compStart (.ListComp elt [g, ⟨.Name x2 px2, iter2, ifs2, 0⟩] scope pos) 1 it acc env = (do
      if (← ask).params.followText "comprehension-iter-twice" then return ← again (.compLoop (.ListComp elt [g, ⟨.Name x2 px2, iter2, ifs2, 0⟩] scope pos) 1 it acc env)
      rule "comprehension.iter-twice"
      standAt iter2.pos
      again (.compLoop (.ListComp elt [g, ⟨.Name x2 px2, iter2, ifs2, 0⟩] scope pos) 1 (← pyIter it) acc env)) := rfl
end

section
variable {c : Cx} {vals : Vals} {news : Led}
theorem AW.emitA {elt : Expr} {D : Addr} {Φ : Unit → Vals → Led → Prop}
    (h : AW c (eval elt c.env) vals news fun y v n => ∃ its n', (D, .list its) ∈ n ∧ Upd D (.list (its ++ [y])) n n' ∧ its.length ≤ sizeLine ∧ Φ () v n') :
    AW c (emitOne elt (.ref D) c.env) vals news Φ := by
  refine AW.bind (h.mono ?_)
  rintro y v n ⟨its, n', h1, h2, h3, h4⟩
  refine AW.bind (AW.append h1 h2 h3 ?_)
  exact AW.pure h4
/-- the second clause's loop -/
theorem AW.emit2 {elt : Expr} {g : Comprehension} {x2 : Str} {px2 : Pos} {iter2 : Expr} {ifs2 : List Expr} {scope : Scope} {pos : Pos} {D : Addr} {Φ : Unit → Vals → Led → Prop} (G : Ok c) (hro : c.ro = false)
    (hf : ∀ x, foldedSetIterable iter2 c.env x = Pure.pure x)
    (h : AW c (eval iter2 c.env) vals news (Clause c (.Name x2 px2) ifs2 (emitOne elt (.ref D) c.env) Φ)) :
    AW c (emitTwo elt [g, ⟨.Name x2 px2, iter2, ifs2, 0⟩] scope pos iter2 (.ref D) c.env) vals news Φ :=
  AW.emitNext G hro hf (fun it => cs3 g it _ _) (fun I => ct3 g I _ _) h

theorem AW.asgComp2 {elt iter : Expr} {x : Str} {px : Pos} {ifs : List Expr} {x2 : Str} {px2 : Pos} {iter2 : Expr} {ifs2 : List Expr} {scope : Scope} {cl : List (Str × Addr)} {pos : Pos} {y : Str} {py spos : Pos} {Φ : Flow → Vals → Led → Prop} (nm : List Str) (G : Ok c) (hro : c.ro = false)
    (hsw : swapsWith (.ListComp elt [⟨.Name x px, iter, ifs, 0⟩, ⟨.Name x2 px2, iter2, ifs2, 0⟩] scope pos) (some (.Name y py)) spos.line c.env = Pure.pure true)
    (hclos : closureFor scope c.env = Pure.pure cl) (hcell : ∀ y ∈ scope.names, y.2 ≠ .cell) (hkind : scope.kind = .function) (hnames : ∀ y ∈ scope.names, y.2 = .local → scope.names.lookup y.1 = some .local) (hs : ∀ x, foldedSetIterable iter c.env x = Pure.pure x) (hnd : nm.Nodup)
    (h : AW c (eval iter c.env) vals news (CompIn c scope cl nm (.Name x px) ifs (fun C D => emitTwo elt [⟨.Name x px, iter, ifs, 0⟩, ⟨.Name x2 px2, iter2, ifs2, 0⟩] scope pos iter2 (.ref D) (compEnvC scope cl C c.env)) fun D v n => AW c (assign (.Name y py) c.env (.ref D)) v n fun _ => Φ .next)) :
    AW c (exec (.Assign [.Name y py] (.ListComp elt [⟨.Name x px, iter, ifs, 0⟩, ⟨.Name x2 px2, iter2, ifs2, 0⟩] scope pos) spos) c.env) vals news Φ :=
  AW.asgCompL (emit := fun C D => emitTwo elt [⟨.Name x px, iter, ifs, 0⟩, ⟨.Name x2 px2, iter2, ifs2, 0⟩] scope pos iter2 (.ref D) (compEnvC scope cl C c.env)) hro hsw nm G hclos hcell hkind hnames hs hnd (fun C I D => ct2 I _ _) h
theorem AW.asgComp1 {elt iter : Expr} {x : Str} {px : Pos} {ifs : List Expr} {scope : Scope} {cl : List (Str × Addr)} {pos : Pos} {y : Str} {py spos : Pos} {Φ : Flow → Vals → Led → Prop} (nm : List Str) (G : Ok c) (hro : c.ro = false)
    (hsw : swapsWith (.ListComp elt [⟨.Name x px, iter, ifs, 0⟩] scope pos) (some (.Name y py)) spos.line c.env = Pure.pure true)
    (hclos : closureFor scope c.env = Pure.pure cl) (hcell : ∀ y ∈ scope.names, y.2 ≠ .cell) (hkind : scope.kind = .function) (hnames : ∀ y ∈ scope.names, y.2 = .local → scope.names.lookup y.1 = some .local) (hs : ∀ x, foldedSetIterable iter c.env x = Pure.pure x) (hnd : nm.Nodup)
    (h : AW c (eval iter c.env) vals news (CompIn c scope cl nm (.Name x px) ifs (fun C D => emitOne elt (.ref D) (compEnvC scope cl C c.env)) fun D v n => AW c (assign (.Name y py) c.env (.ref D)) v n fun _ => Φ .next)) :
    AW c (exec (.Assign [.Name y py] (.ListComp elt [⟨.Name x px, iter, ifs, 0⟩] scope pos) spos) c.env) vals news Φ :=
  AW.asgCompL (emit := fun C D => emitOne elt (.ref D) (compEnvC scope cl C c.env)) hro hsw nm G hclos hcell hkind hnames hs hnd (fun C I D => ct1 I _ _) h
theorem AW.comp2L {elt iter : Expr} {x : Str} {px : Pos} {ifs : List Expr} {x2 : Str} {px2 : Pos} {iter2 : Expr} {ifs2 : List Expr} {scope : Scope} {cl : List (Str × Addr)} {pos : Pos} {Φ : Value → Vals → Led → Prop} (nm : List Str) (G : Ok c)
    (hclos : closureFor scope c.env = Pure.pure cl) (hcell : ∀ y ∈ scope.names, y.2 ≠ .cell) (hkind : scope.kind = .function) (hnames : ∀ y ∈ scope.names, y.2 = .local → scope.names.lookup y.1 = some .local) (hs : ∀ x, foldedSetIterable iter c.env x = Pure.pure x) (hnd : nm.Nodup)
    (h : AW c (eval iter c.env) vals news (CompIn c scope cl nm (.Name x px) ifs (fun C D => emitTwo elt [⟨.Name x px, iter, ifs, 0⟩, ⟨.Name x2 px2, iter2, ifs2, 0⟩] scope pos iter2 (.ref D) (compEnvC scope cl C c.env)) fun D => Φ (.ref D))) :
    AW c (eval (.ListComp elt [⟨.Name x px, iter, ifs, 0⟩, ⟨.Name x2 px2, iter2, ifs2, 0⟩] scope pos) c.env) vals news Φ :=
  AW.compL (emit := fun C D => emitTwo elt [⟨.Name x px, iter, ifs, 0⟩, ⟨.Name x2 px2, iter2, ifs2, 0⟩] scope pos iter2 (.ref D) (compEnvC scope cl C c.env)) nm G hclos hcell hkind hnames hs hnd (fun C I D => ct2 I _ _) h
theorem AW.comp1L {elt iter : Expr} {x : Str} {px : Pos} {ifs : List Expr} {scope : Scope} {cl : List (Str × Addr)} {pos : Pos} {Φ : Value → Vals → Led → Prop} (nm : List Str) (G : Ok c)
    (hclos : closureFor scope c.env = Pure.pure cl) (hcell : ∀ y ∈ scope.names, y.2 ≠ .cell) (hkind : scope.kind = .function) (hnames : ∀ y ∈ scope.names, y.2 = .local → scope.names.lookup y.1 = some .local) (hs : ∀ x, foldedSetIterable iter c.env x = Pure.pure x) (hnd : nm.Nodup)
    (h : AW c (eval iter c.env) vals news (CompIn c scope cl nm (.Name x px) ifs (fun C D => emitOne elt (.ref D) (compEnvC scope cl C c.env)) fun D => Φ (.ref D))) :
    AW c (eval (.ListComp elt [⟨.Name x px, iter, ifs, 0⟩] scope pos) c.env) vals news Φ :=
  AW.compL (emit := fun C D => emitOne elt (.ref D) (compEnvC scope cl C c.env)) nm G hclos hcell hkind hnames hs hnd (fun C I D => ct1 I _ _) h
end
end Mine
end

section
namespace Mine
open PySem PySem.W PyProof.Rows PySem.Calls

theorem Room.in2 {A : Around} {k : Nat} (r : Room A (k + 1)) : Room A.in1.in1 k := ⟨r.han, by have := r.dep; show A.depth + k < _; omega, by have := r.uni; show A.units + 1 + 1 + 8 * k < _; omega⟩

noncomputable def strA (v : Value) : Str := match v with | .str x _ => x | _ => ⟨#[]⟩
theorem argBest_ltS (key : Nat → List Nat) : ∀ k, argBest (fun i j => decide (key i < key j)) k ≤ k ∧ ∀ j, j ≤ k → ¬ key j < key (argBest (fun i j => decide (key i < key j)) k)
  | 0 => ⟨Nat.le_refl _, fun j hj => by
      have : j = 0 := by omega
      subst this; exact List.lt_irrefl _⟩
  | k + 1 => by
    obtain ⟨h1, h2⟩ := argBest_ltS key k
    simp only [argBest]
    by_cases hc : key (k + 1) < key (argBest (fun i j => decide (key i < key j)) k)
    · rw [if_pos (by simpa using hc)]
      refine ⟨Nat.le_refl _, fun j hj => ?_⟩
      rcases Nat.lt_or_ge j (k + 1) with q | q
      · exact fun z => h2 j (by omega) (List.lt_trans z hc)
      · have : j = k + 1 := by omega
        subst this; exact List.lt_irrefl _
    · rw [if_neg (by simpa using hc)]
      refine ⟨by omega, fun j hj => ?_⟩
      rcases Nat.lt_or_ge j (k + 1) with q | q
      · exact h2 j (by omega)
      · have : j = k + 1 := by omega
        subst this; exact hc

section
variable {c : Cx} {vals : Vals} {news : Led}
theorem AW.minS {a : Addr} {its : List Value} {xs : List Str} {Φ : Value → Vals → Led → Prop} (G : Ok c) (hm : HasL c news (a, .list its)) (hp : Paired IsStr its xs) (hne : xs ≠ [])
    (h : ∀ x t, x ∈ xs → (∀ y ∈ xs, ¬ y.cps.toList < x.cps.toList) → Φ (.str x t) vals news) : AW c (call (.builtin "min") [.ref a]) vals news Φ := by
  intro g s R
  obtain ⟨o, ho, ⟨n, hmo⟩, _⟩ := R.has hm
  have hlen := hp.length
  have hpos : 0 < its.length := by
    rw [hlen]
    exact List.length_pos_iff.mpr hne
  have hne' : a ≠ s.heap.objs.size := Nat.ne_of_lt (Heap.lt_size ho)
  have hl : s.heap.IsList a its.toArray := ⟨o, ho, by rw [hmo], n, by rw [hmo]⟩
  have W := Walks.list (prog := PySem.Challenge.rw_wj0025_01.row.prog) (w := c.w) (A := c.A.in1) G.han s.heap.objs.size a hne' its.toArray
  have val : ∀ i v, its[i]? = some v → ∃ x t, xs[i]? = some x ∧ v = Value.str x t := fun i v e => by
    obtain ⟨x, hx, t, e'⟩ := pgetL hp i v e
    exact ⟨x, t, hx, e'⟩
  let key : Nat → List Nat := fun i => (xs.getD i ⟨#[]⟩).cps.toList
  have hkey : ∀ i x, xs[i]? = some x → key i = x.cps.toList := fun i x e => by
    show (xs.getD i ⟨#[]⟩).cps.toList = _
    rw [List.getD_eq_getElem?_getD, e]; rfl
  have hcmp : CmpOf PySem.Challenge.rw_wj0025_01.row.prog c.w c.A.in1 .Lt (fun i v => its.toArray[i]? = some v) (fun i j => decide (key i < key j)) := fun i j vi vj s Q E hi hj hQ => by
    obtain ⟨x, t, hx, rfl⟩ := val i vi (by simpa using hi)
    obtain ⟨y, u, hy, rfl⟩ := val j vj (by simpa using hj)
    have hQ' : Q (.bool (decide (key i < key j))) s := hQ
    rw [hkey i x hx, hkey j y hy] at hQ'
    exact P.lt_str hQ'
  refine call_min_walk (wpAny_pyIter_list hl ⟨_, [s.heap.objs.size, a], _, _, _, (fun i h => h.IsListIter s.heap.objs.size a i ∧ h.IsList a its.toArray), _, rfl, W, ⟨⟨_, Heap.get?_push_size _ rfl, rfl, rfl⟩, hl.push _⟩, ?_, by simpa using hpos, hcmp, fun v h' tk hP hk => ?_⟩)
  · intro b hb
    rw [Heap.size_push]
    rcases List.mem_cons.mp hb with rfl | hb
    · exact Nat.lt_succ_self _
    · rw [List.mem_singleton.mp hb]; exact Nat.lt_succ_of_lt (Heap.lt_size ho)
  · have hsz : its.toArray.size = its.length := by simp
    rw [hsz] at hP
    obtain ⟨b1, b2⟩ := argBest_ltS key (its.length - 1)
    obtain ⟨x, t, hx, rfl⟩ := val _ v (by simpa using hP)
    have R' : Rel c g vals news { s with heap := h', toks := tk } := R.grow (tk := tk) fun b o q => hk b o (fun m => by
      rw [List.mem_singleton.mp m] at q
      exact absurd (Heap.lt_size q) (Nat.lt_irrefl _)) (Heap.get?_push_of_some _ q)
    refine ⟨vals, news, R', h x t (List.mem_of_getElem? hx) fun y hy => ?_⟩
    obtain ⟨j, hj, e⟩ := List.mem_iff_getElem.mp hy
    have hyj : xs[j]? = some y := by rw [List.getElem?_eq_getElem hj, e]
    have := b2 j (by omega)
    rw [hkey j y hyj, hkey _ x hx] at this
    exact this

theorem intsAre_of {vs : List Value} {ns : List Int} (h : Paired (fun v z => ∃ t, v = Value.int z t) vs ns) : IntsAre vs ns := by
  induction h with
  | nil => exact .nil
  | cons h _ ih => obtain ⟨t, rfl⟩ := h; exact .cons _ t ih
theorem of_intsAre {vs : List Value} {ns : List Int} (h : IntsAre vs ns) : Paired (fun v z => ∃ t, v = Value.int z t) vs ns := by
  induction h with
  | nil => exact .nil
  | cons n t _ ih => exact .cons ⟨t, rfl⟩ ih
theorem strsAre_of {vs : List Value} {xs : List Str} (h : Paired IsStr vs xs) : StrsAre vs xs := by
  induction h with
  | nil => exact .nil
  | cons h _ ih => obtain ⟨t, rfl⟩ := h; exact .cons _ t ih
theorem AW.sortedI {a : Addr} {its : List Value} {ns : List Int} {Φ : Value → Vals → Led → Prop} (G : Ok c) (hm : HasL c news (a, .list its)) (hp : Paired (fun v z => ∃ t, v = Value.int z t) its ns) (h64 : its.length < 64)
    (h : ∀ r out ns', Paired (fun v z => ∃ t, v = Value.int z t) out ns' → ns'.Perm ns → ns'.Pairwise (· ≤ ·) → Φ (.ref r) vals ((r, .list out) :: news)) : AW c (call (.builtin "sorted") [.ref a]) vals news Φ := by
  intro g s R
  obtain ⟨o, ho, ⟨n, rfl⟩, _⟩ := R.has hm
  refine sorted_ints ⟨_, ho, rfl, n, rfl⟩ (intsAre_of hp) h64 fun out ns' h1 h2 h3 => ?_
  obtain ⟨e, he⟩ := sortedAll_at s.heap its out
  have R' : Rel c g vals news { s with heap := sortedAll s.heap its out } := R.grow (tk := s.toks) fun b o q => sortedAll_old q
  refine ⟨vals, _, R'.add (tl := [(s.heap.objs.size + 1, .list out.toList)]) (by simp) ?_, h _ out.toList ns' (of_intsAre h1) h2 h3⟩
  intro p hp'
  rw [List.mem_singleton.mp hp']
  have hn1 : s.heap.get? (s.heap.objs.size + 1) = none := get_none_of_size _ _ (Nat.le_succ _)
  refine ⟨⟨_, he, ⟨e, by simp [seqObj]⟩, trivial⟩, fun q => ?_, ?_⟩
  · obtain ⟨o', ho'⟩ := R.lives _ q
    rw [hn1] at ho'; cases ho'
  · cases q : g.get? (s.heap.objs.size + 1) with
    | none => rfl
    | some o' => have := R.keep _ _ q; rw [hn1] at this; cases this

/-! two lists of strs that hold the same -/
theorem carried_strs {vs : List Value} {xs : List Str} (h : Paired IsStr vs xs) : CarriedAll vs (xs.map PyData.str) := by
  induction h with
  | nil => exact .nil
  | cons h _ ih => obtain ⟨t, rfl⟩ := h; exact .cons (.str _ t) ih
theorem same_strs : ∀ xs : List Str, PySem.Spec.sameAll (xs.map PyData.str) (xs.map PyData.str) = true
  | [] => by simp [PySem.Spec.sameAll]
  | x :: r => by simp [PySem.Spec.sameAll, PySem.Spec.same, same_strs r]
theorem AW.neLS {a b : Addr} {its jts : List Value} {xs : List Str} {Φ : Value → Vals → Led → Prop} (hr : Room c.A 8) (ha : HasL c news (a, .list its)) (hb : HasL c news (b, .list jts)) (hp : Paired IsStr its xs) (hq : Paired IsStr jts xs) (hok : ∀ x ∈ xs, PyData.canLay0 (.str x) = true)
    (h : Φ (.bool false) vals news) : AW c (compareOp .NotEq (.ref a) (.ref b)) vals news Φ := by
  intro g s R
  obtain ⟨o, ho, ⟨n, rfl⟩, _⟩ := R.has ha
  obtain ⟨o', ho', ⟨n', rfl⟩, _⟩ := R.has hb
  have hsh : SeqAt.shaped (.list (xs.map PyData.str)) = true := by
    have h1 : ∀ xs : List Str, (∀ x ∈ xs, PyData.canLay0 (.str x) = true) → PyData.canLayAll0 (xs.map PyData.str) = true := by
      intro xs
      induction xs with
      | nil => intro _; rfl
      | cons x r ih => intro h; simp only [List.map_cons, PyData.canLayAll0, Bool.and_eq_true]; exact ⟨h x (by simp), ih fun y hy => h y (by simp [hy])⟩
    have h2 : ∀ xs : List Str, PyData.depthAll (xs.map PyData.str) = 0 := by
      intro xs
      induction xs with
      | nil => rfl
      | cons x r ih => simp [PyData.depthAll, PyData.depth, ih]
    simp [SeqAt.shaped, PyData.canLay0, PyData.depth, h1 xs hok, h2]
  have hs : PySem.Spec.same (.list (xs.map PyData.str)) (.list (xs.map PyData.str)) = true := by
    simp only [PySem.Spec.same]; exact same_strs xs
  have hu := hr.uni
  exact ne_dataH_same (reads_newData ⟨_, ho, rfl, n, rfl⟩ (carried_strs hp)) (reads_newData ⟨_, ho', rfl, n', rfl⟩ (carried_strs hq)) hsh hsh (by omega)
    (SeqAt.noMix_of_shape (.list .str) rfl _ _ (list_map_has fun _ => rfl) (list_map_has fun _ => rfl)) (by rw [hs]; exact ⟨vals, news, R, h⟩)
end

/-! sorted with a key that gives a str -/
section
variable {prog : Program} {w : World} {A : Around} {E : Value → Shared → Prop} {s : Shared} {a kS : Addr} {vs : List Value} {xs : List Str} {keys : Array Value} {e e1 : Nat} {P : PySem.Fin → Shared → Prop}
noncomputable def Sorted2 (xs : List Str) (vs out : List Value) : Prop := ∃ ps : List (Str × Value), ps.Perm (xs.zip vs) ∧ out = ps.map Prod.snd ∧ ps.Pairwise (fun p q => ¬ q.1.cps.toList < p.1.cps.toList)
theorem sorted2_out {keys : Array Value} {vs : List Value} {xs : List Str} (hk : StrsAre keys.toList xs) {ps : Array Keyed} (hp : ps.Perm (keys.zip vs.toArray)) (hs : SortedToK PyProof.Rows.strKind ps ps.size) : Sorted2 xs vs (ps.map (·.2)).toList := by
  have hl : ps.toList.Perm (keys.toList.zip vs) := by rw [← ksk_zip]; exact Array.perm_iff_toList_perm.mp hp
  refine ⟨ps.toList.map (fun p : Keyed => (strOf p.1, p.2)), ?_, ?_, ?_⟩
  · have e2 : (keys.toList.zip vs).map (fun p : Keyed => (strOf p.1, p.2)) = xs.zip vs := by
      rw [← hk.strs, List.zip_map_left]
      exact List.map_congr_left fun ⟨x, y⟩ _ => rfl
    rw [← e2]
    exact hl.map _
  · rw [Array.toList_map, List.map_map]; rfl
  · rw [List.pairwise_iff_getElem]
    intro i j hi hj hij
    have hi' : i < ps.size := by simpa using hi
    have hj' : j < ps.size := by simpa using hj
    have h1 := hs i j (Nat.le_of_lt hij) hj'
    have mem : ∀ p ∈ ps.toList, ∃ x t, p.1 = Value.str x t := fun p hp' => by
      have := hl.mem_iff.mp hp'
      obtain ⟨q, r⟩ := p
      exact hk.all _ (List.of_mem_zip this).1
    obtain ⟨x, t, ex⟩ := mem ps[i] (by simp)
    obtain ⟨y, u, ey⟩ := mem ps[j] (by simp)
    rw [KK_str hi' (x := x) (t := t) (q := ps[i].2) (Prod.ext ex rfl), KK_str hj' (x := y) (t := u) (q := ps[j].2) (Prod.ext ey rfl)] at h1
    change decide (y.cps.toList < x.cps.toList) = false at h1
    simp only [List.getElem_map, Array.getElem_toList]
    rw [show strOf ps[i].1 = x by rw [ex]; rfl, show strOf ps[j].1 = y by rw [ey]; rfl]
    exact of_decide_eq_false h1
theorem keysOf_zip {keys : Array Value} {vs : List Value} {xs : List Str} (hk : StrsAre keys.toList xs) : KeysOf PyProof.Rows.strKind (keys.zip vs.toArray) := by
  intro p hp
  rw [ksk_zip] at hp
  obtain ⟨x, y⟩ := p
  obtain ⟨z, t, e⟩ := hk.all _ (List.of_mem_zip hp).1
  exact ⟨z.cps.toList, by show PyProof.Rows.strKind.keyOf x = _; rw [e]⟩
theorem kind_zip {keys : Array Value} {xs : List Str} (hk : StrsAre keys.toList xs) (h2 : 2 ≤ keys.size) : keyKind' keys = Pure.pure oneType' := by
  obtain ⟨v₁, v₂, rest, e⟩ : ∃ v₁ v₂ rest, keys.toList = v₁ :: v₂ :: rest := by
    have hl : 2 ≤ keys.toList.length := by rw [Array.length_toList]; exact h2
    cases q : keys.toList with
    | nil => rw [q] at hl; simp at hl
    | cons v₁ r =>
      cases r with
      | nil => rw [q] at hl; simp at hl
      | cons v₂ rest => exact ⟨v₁, v₂, rest, rfl⟩
  have ek : keys = (v₁ :: v₂ :: rest).toArray := by rw [← e, Array.toArray_toList]
  rw [e] at hk
  rw [ek]
  exact keyKind_strs hk

theorem srt_tail {st : SortSt} (nk : s.heap.get? kS = some (seqObj "list" keys e)) (na : s.heap.get? a = some (seqObj "list" #[] e1)) (hka : kS ≠ a)
    (hk : StrsAre keys.toList xs) (hlen : xs.length = vs.length) (h64 : vs.length < 64) (hp : (arrOf st).Perm (keys.zip vs.toArray)) (hs : SortedToK PyProof.Rows.strKind (arrOf st) (arrOf st).size) (hfl : failedOf st = none)
    (h : ∀ h' tk out c, (∀ b o, b ≠ kS → b ≠ a → s.heap.get? b = some o → h'.get? b = some o) → h'.get? a = some (seqObj "list" out c) → Sorted2 xs vs out.toList → P (.done (.ret .none)) { s with heap := h', toks := tk }) :
    wpAny (model prog w) A (ksk_tail a false e1 (.ref kS) st) P E s := by
  have hsz : keys.size = vs.length := by
    have h1 := hk.length
    rw [Array.length_toList] at h1
    omega
  have hsz2 : (arrOf st).size = vs.length := by rw [hp.size_eq, Array.size_zip, hsz, List.size_toArray, Nat.min_self]
  have hout : ((arrOf st).map (·.2)).size = vs.length := by rw [Array.size_map]; exact hsz2
  have s1 := Heap.SameBut.update s.heap kS (Obj.mapSeq fun _ => (#[] : Array Value))
  have na1 : (s.heap.update kS (Obj.mapSeq fun _ => (#[] : Array Value))).get? a = some (seqObj "list" #[] e1) := (s1.2 a hka.symm).trans na
  have s2 := Heap.SameBut.update (s.heap.update kS (Obj.mapSeq fun _ => (#[] : Array Value))) a (Obj.mapSeq fun _ => (arrOf st).map (·.2))
  have key : ∀ X : Array Value, ∃ c2, ((s.heap.update kS (Obj.mapSeq fun _ => (#[] : Array Value))).update a (Obj.mapSeq fun _ => X)).get? a = some (seqObj "list" X c2) := fun X => ⟨_, get?_update_seq na1 fun _ => X⟩
  obtain ⟨c2, hc2⟩ := key ((arrOf st).map (·.2))
  unfold ksk_tail
  try dsimp only
  refine wpAny_bind (listUpdate_at nk rfl ?_ (by rw [hsz, sizeLine_eq]; omega) (Nat.zero_le _))
  refine wpAny_bind (wpAny_letGo ?_)
  refine wpAny_bind (seqEpoch_at na1 rfl ?_)
  simp only [Bool.false_eq_true, if_false]
  refine wpAny_bind (listUpdate_at na1 rfl ?_ (Nat.zero_le _) (Nat.le_trans (Nat.le_of_eq hout) (by rw [sizeLine_eq]; omega)))
  rw [hfl]
  simp only [bne_self_eq_false, Bool.false_eq_true, if_false]
  exact wpAny_pure (h _ _ _ c2 (fun b o h1 h2 q => (s2.2 b h2).trans ((s1.2 b h1).trans q)) hc2 (sorted2_out hk hp hs))

theorem srt_end (nk : s.heap.get? kS = some (seqObj "list" keys e)) (na : s.heap.get? a = some (seqObj "list" #[] e1)) (hka : kS ≠ a) (hk : StrsAre keys.toList xs) (hlen : xs.length = vs.length) (h64 : vs.length < 64)
    (h : ∀ h' tk out c, (∀ b o, b ≠ kS → b ≠ a → s.heap.get? b = some o → h'.get? b = some o) → h'.get? a = some (seqObj "list" out c) → Sorted2 xs vs out.toList → P (.done (.ret .none)) { s with heap := h', toks := tk }) :
    wpAny (model prog w) A (ksk_end a false vs.toArray e1 (.ref kS) keys) P E s := by
  have hsz : keys.size = vs.length := by
    have h1 := hk.length
    rw [Array.length_toList] at h1
    omega
  have hzs : (keys.zip vs.toArray).size = vs.length := by rw [Array.size_zip, hsz, List.size_toArray, Nat.min_self]
  unfold ksk_end
  simp only [Bool.false_eq_true, if_false]
  try dsimp only
  by_cases h2 : vs.toArray.size < 2
  · rw [if_pos h2, if_pos h2]
    refine wpAny_bind (wpAny_pure ?_)
    rw [StateT.run_pure]
    refine wpAny_bind (wpAny_pure ?_)
    try dsimp only
    refine srt_tail (st := SortSt.mk' general' (keys.zip vs.toArray) #[] 7 none) nk na hka hk hlen h64 (Array.Perm.refl _) ?_ rfl h
    intro i j hij hj
    have hj2 : j < (keys.zip vs.toArray).size := hj
    rw [hzs] at hj2
    rw [List.size_toArray] at h2
    have : i = j := by omega
    subst this
    exact KeyOrd.kle_refl _
  · rw [if_neg h2, if_neg h2]
    rw [List.size_toArray] at h2
    rw [kind_zip hk (by rw [hsz]; omega)]
    refine wpAny_bind (wpAny_pure ?_)
    refine wpAny_bind (wpAny_mono (wpS_sortRunsK (κ := PyProof.Rows.strKind) strKind_oneLt (a₀ := keys.zip vs.toArray) (st := SortSt.mk' oneType' (keys.zip vs.toArray) #[] 7 none)
      (Q := fun _ st' => (arrOf st').Perm (keys.zip vs.toArray) ∧ failedOf st' = none ∧ SortedToK PyProof.Rows.strKind (arrOf st') (keys.zip vs.toArray).size)
      (keysOf_zip hk) ⟨Array.Perm.refl _, rfl, rfl, rfl⟩ (by rw [hzs]; omega) (by rw [hzs]; exact h64) fun st' a1 a2 a3 => ⟨a1, a2, a3⟩) ?_ fun _ _ e => e)
    rintro ⟨⟨⟩, st'⟩ s' ⟨rfl, hp, hf, hs⟩
    try dsimp only
    exact srt_tail nk na hka hk hlen h64 hp (by rw [hp.size_eq]; exact hs) hf h

theorem strs_snoc {x : Str} {t : Tok} : ∀ {vs : List Value} {ns : List Str}, StrsAre vs ns → StrsAre (vs ++ [.str x t]) (ns ++ [x])
  | _, _, .nil => .cons x t .nil
  | _, _, .cons n' t' h => .cons n' t' (strs_snoc h)
theorem srt_rest {f : Value} (nk : s.heap.get? kS = some (seqObj "list" #[] 0)) (na : s.heap.get? a = some (seqObj "list" #[] e1)) (hka : kS ≠ a) (hlen : xs.length = vs.length) (h64 : vs.length < 64)
    (turn : ∀ (i : Nat) (v : Value) (x : Str), vs[i]? = some v → xs[i]? = some x → ∀ s' : Shared, (∀ b o, b ≠ kS → b ≠ a → s.heap.get? b = some o → s'.heap.get? b = some o) →
      wpAny (model prog w) A (call f [v]) (fun k s'' => (∃ t, k = .str x t) ∧ Keeps s' s'') (fun _ _ => False) s')
    (h : ∀ h' tk out c, (∀ b o, b ≠ kS → b ≠ a → s.heap.get? b = some o → h'.get? b = some o) → h'.get? a = some (seqObj "list" out c) → Sorted2 xs vs out.toList → P (.done (.ret .none)) { s with heap := h', toks := tk }) :
    wpAny (model prog w) A (ksk_rest a f false vs.toArray e1 (.ref kS)) P E s := by
  unfold ksk_rest
  refine wpAny_bind (wpAny_rule ?_)
  first
    | rw [List.forIn_toArray]
    | (rw [← Array.forIn_toList]; simp only [List.toList_toArray])
    | rw [← Array.forIn_toList]
  refine wpAny_bind (ksk_fold (fun i s' => ∃ h' tk kA e, s' = { s with heap := h', toks := tk } ∧ (∀ b o, b ≠ kS → b ≠ a → s.heap.get? b = some o → h'.get? b = some o) ∧ h'.get? kS = some (seqObj "list" kA e) ∧ h'.get? a = some (seqObj "list" #[] e1) ∧ StrsAre kA.toList (xs.take i)) vs 0 s
    ⟨s.heap, s.toks, #[], 0, rfl, fun _ _ _ _ q => q, nk, na, by simpa using StrsAre.nil⟩ ?step ?done)
  case step =>
    rintro j x s' hx ⟨h', tk, kA, e, rfl, hE, hkS, ha, hk⟩
    simp only [Nat.zero_add] at hk ⊢
    have hj : j < vs.length := (List.getElem?_eq_some_iff.mp hx).1
    obtain ⟨k, hkj⟩ : ∃ k, xs[j]? = some k := ⟨_, List.getElem?_eq_getElem (by omega)⟩
    have hz : kA.size ≤ vs.length := by
      have h1 := hk.length
      rw [Array.length_toList, List.length_take] at h1
      omega
    refine wpAny_bind (wpAny_attempt (wpAny_mono (turn j x k hx hkj _ hE) (fun v s'' he => ?_) fun _ _ hF => hF.elim))
    obtain ⟨⟨t2, rfl⟩, g, tk2, rfl, hg⟩ := he
    try dsimp only
    have nk2 : g.get? kS = some (seqObj "list" kA e) := hg _ _ hkS
    have na2 : g.get? a = some (seqObj "list" #[] e1) := hg _ _ ha
    have s1 := Heap.SameBut.update g kS (Obj.mapSeq (·.push (.str k t2)))
    obtain ⟨c2, hc2⟩ : ∃ c2, (g.update kS (Obj.mapSeq (·.push (.str k t2)))).get? kS = some (seqObj "list" (kA.push (.str k t2)) c2) := ⟨_, get?_update_seq nk2 (·.push (.str k t2))⟩
    have ek : xs.take (j + 1) = xs.take j ++ [k] := by rw [List.take_add_one, hkj]; simp
    have ea : (kA.push (Value.str k t2)).toList = kA.toList ++ [Value.str k t2] := by simp
    refine wpAny_bind (listUpdate_at nk2 rfl ?_ (by rw [sizeLine_eq]; omega) (Nat.le_trans (Nat.le_of_eq (Array.size_push ..)) (by rw [sizeLine_eq]; omega)))
    refine wpAny_pure ⟨rfl, _, _, kA.push (.str k t2), c2, rfl, fun b o h1 h2 q => (s1.2 b h1).trans (hg _ _ (hE b o h1 h2 q)), hc2, (s1.2 a hka.symm).trans na2, by rw [ea, ek]; exact strs_snoc hk⟩
  case done =>
    rintro s' ⟨h', tk, kA, e, rfl, hE, hkS, ha, hk⟩
    have hk' : StrsAre kA.toList xs := by
      have e3 : xs.take (0 + vs.length) = xs := List.take_of_length_le (by omega)
      rw [e3] at hk
      exact hk
    try dsimp only
    refine wpAny_bind (listItems_at hkS rfl ?_)
    exact srt_end hkS ha hka hk' hlen h64 fun h3 tk3 out c q1 q2 q3 => h h3 tk3 out c (fun b o h1 h2 q => q1 b o h1 h2 (hE b o h1 h2 q)) q2 q3

theorem srt_sort {f : Value} {n : Nat} (ho : s.heap.get? a = some (seqObj "list" vs.toArray n)) (hlen : xs.length = vs.length) (h64 : vs.length < 64)
    (turn : ∀ (i : Nat) (v : Value) (x : Str), vs[i]? = some v → xs[i]? = some x → ∀ s' : Shared, (∀ b o, b ≠ a → s.heap.get? b = some o → s'.heap.get? b = some o) →
      wpAny (model prog w) A (call f [v]) (fun k s'' => (∃ t, k = .str x t) ∧ Keeps s' s'') (fun _ _ => False) s')
    (h : ∀ h' tk out c, (∀ b o, b ≠ a → s.heap.get? b = some o → h'.get? b = some o) → h'.get? a = some (seqObj "list" out c) → Sorted2 xs vs out.toList → P (.done (.ret .none)) { s with heap := h', toks := tk }) :
    wpAny (model prog w) A (ksk_tree a f false) P E s := by
  have ha : a < s.heap.objs.size := Heap.lt_size ho
  have s1 := Heap.SameBut.update s.heap a (Obj.mapSeq fun _ => (#[] : Array Value))
  obtain ⟨e1, ho1⟩ : ∃ e1, (s.heap.update a (Obj.mapSeq fun _ => (#[] : Array Value))).get? a = some (seqObj "list" #[] e1) := ⟨_, get?_update_seq ho fun _ => #[]⟩
  have hkS : ((s.heap.update a (Obj.mapSeq fun _ => (#[] : Array Value))).push (seqObj "tuple" vs.toArray 0)).objs.size = s.heap.objs.size + 1 := by rw [size_push', Heap.size_update]
  have keep : ∀ b o, b ≠ a → s.heap.get? b = some o → ((((s.heap.update a (Obj.mapSeq fun _ => (#[] : Array Value))).push (seqObj "tuple" vs.toArray 0)).push (seqObj "list" #[] 0))).get? b = some o := fun b o hb q =>
    Heap.get?_push_of_some _ (Heap.get?_push_of_some _ ((s1.2 b hb).trans q))
  have nkS : ∀ b o, s.heap.get? b = some o → b ≠ ((s.heap.update a (Obj.mapSeq fun _ => (#[] : Array Value))).push (seqObj "tuple" vs.toArray 0)).objs.size := fun b o q => by rw [hkS]; exact Nat.ne_of_lt (Nat.lt_succ_of_lt (Heap.lt_size q))
  unfold ksk_tree
  refine wpAny_bind (listItems_at ho rfl ?_)
  refine wpAny_bind (listUpdate_at ho rfl ?_ (by rw [List.size_toArray, sizeLine_eq]; omega) (Nat.zero_le _))
  refine wpAny_bind (seqEpoch_at ho1 rfl ?_)
  refine wpAny_bind (wpAny_newTuple ?_ (by show vs.length ≤ _; rw [sizeLine_eq]; omega))
  refine wpAny_bind (wpAny_newList ?_ (Nat.zero_le _))
  refine wpAny_holding ?_
  exact srt_rest (s := { s with heap := ((s.heap.update a (Obj.mapSeq fun _ => (#[] : Array Value))).push (seqObj "tuple" vs.toArray 0)).push (seqObj "list" #[] 0) }) (kS := ((s.heap.update a (Obj.mapSeq fun _ => (#[] : Array Value))).push (seqObj "tuple" vs.toArray 0)).objs.size)
    (Heap.get?_push_size _ rfl) (Heap.get?_push_of_some _ (Heap.get?_push_of_some _ ho1)) (by rw [hkS]; exact Nat.ne_of_gt (Nat.lt_succ_of_lt ha)) hlen h64
    (fun i v x hv hx s' hs' => turn i v x hv hx s' fun b o hb q => hs' b o (nkS b o q) hb (keep b o hb q))
    fun h' tk out c q1 q2 q3 => h h' tk out c (fun b o hb q => q1 b o (nkS b o q) hb (keep b o hb q)) q2 q3

theorem srt_sorted {l q : Addr} {Q : Value → Shared → Prop} (hl : s.heap.IsList l vs.toArray) (hlen : xs.length = vs.length) (h64 : vs.length < 64)
    (turn : ∀ (i : Nat) (v : Value) (x : Str), vs[i]? = some v → xs[i]? = some x → ∀ s' : Shared, (∀ b o, s.heap.get? b = some o → s'.heap.get? b = some o) →
      wpAny (model prog w) A.in1.in1 (call (.ref q) [v]) (fun k s'' => (∃ t, k = .str x t) ∧ Keeps s' s'') (fun _ _ => False) s')
    (h : ∀ D h' tk out c, (∀ b o, s.heap.get? b = some o → h'.get? b = some o) → s.heap.get? D = none → h'.get? D = some (seqObj "list" out c) → Sorted2 xs vs out.toList → Q (.ref D) { s with heap := h', toks := tk }) :
    wpAny (model prog w) A (call (.builtin "sorted") [.ref l] [(Str.ofString "key", .ref q)]) Q E s := by
  refine call_function_entry_kw kind_sorted plain_sorted entry_sorted (ksk_s1 _ _) ?_
  unfold Builtin.«sorted»
  refine wpAny_bind (m := checkCount "sorted" 1 1 _) (wpAny_pure ?_)
  refine wpAny_bind (collect_list hl ?_ (by rw [sizeLine_eq]; omega))
  refine wpAny_bind (wpAny_newList ?_ (by rw [sizeLine_eq]; omega))
  have hsz : ((s.heap.push (seqObj "list" #[] 0)).update s.heap.objs.size (Obj.mapSeq (· ++ vs.toArray))).objs.size = s.heap.objs.size + 1 := by
    rw [Heap.size_update, size_push']
  have hoL : (((s.heap.push (seqObj "list" #[] 0)).update s.heap.objs.size (Obj.mapSeq (· ++ vs.toArray))).push (seqObj "list" vs.toArray 0)).get? (s.heap.objs.size + 1) = some (seqObj "list" vs.toArray 0) := by
    rw [← hsz]; exact Heap.get?_push_size _ rfl
  have keep : ∀ b o, s.heap.get? b = some o → (((s.heap.push (seqObj "list" #[] 0)).update s.heap.objs.size (Obj.mapSeq (· ++ vs.toArray))).push (seqObj "list" vs.toArray 0)).get? b = some o := fun b o q => by
    have hlt : b < s.heap.objs.size := Heap.lt_size q
    rw [Heap.get?_push_ne _ _ _ (by rw [hsz]; exact Nat.ne_of_lt (Nat.lt_succ_of_lt hlt)), Heap.get?_update_ne _ _ _ _ (Nat.ne_of_lt hlt), Heap.get?_push_ne _ _ _ (Nat.ne_of_lt hlt)]
    exact q
  have ne1 : ∀ b o, s.heap.get? b = some o → b ≠ s.heap.objs.size + 1 := fun b o q => Nat.ne_of_lt (Nat.lt_succ_of_lt (Heap.lt_size q))
  show wpAny _ _ _ _ _ { s with heap := ((s.heap.push (seqObj "list" #[] 0)).update s.heap.objs.size (Obj.mapSeq (· ++ vs.toArray))).push (seqObj "list" vs.toArray 0) }
  rw [hsz]
  refine wpAny_bind (wpAny_holding (wpAny_call_entry_kw slot_list_sort ⟨_, hoL, rfl⟩ entry_list_sort ?body (ksk_l1 _ _)))
  case body =>
    show wpAny (model prog w) A.in1.in1 (Builtin.«list.sort» ⟨[.ref (s.heap.objs.size + 1)], [(Str.ofString "key", .ref q)]⟩) _ _ _
    rw [ksk_t1]
    refine srt_sort (s := { s with heap := ((s.heap.push (seqObj "list" #[] 0)).update s.heap.objs.size (Obj.mapSeq (· ++ vs.toArray))).push (seqObj "list" vs.toArray 0) }) hoL hlen h64
      (fun i v x hv hx s' hs' => turn i v x hv hx s' fun b o z => hs' b o (ne1 b o z) (keep b o z)) fun h' tk out c q1 q2 q3 => ⟨_, rfl, ?_⟩
    exact wpAny_pure ⟨_, rfl, h _ h' tk out c (fun b o z => q1 b o (ne1 b o z) (keep b o z)) (get_none_of_size _ _ (Nat.le_succ _)) q2 q3⟩
end

theorem AW.sortedK {c : Cx} {vals : Vals} {news : Led} {a q : Addr} {its : List Value} {xs : List Str} {k : Nat} {Φ : Value → Vals → Led → Prop} (G : Ok c) (hr : Room c.A (k + 1)) (hm : HasL c news (a, .list its)) (hp : Paired IsStr its xs) (h64 : its.length < 64)
    (hS : ∀ x t, Spec c.w k (.ref q) [.str x t] [] (fun v tl => (∃ t, v = .str x t) ∧ tl = []))
    (h : ∀ r out, Sorted2 xs its out → Φ (.ref r) vals ((r, .list out) :: news)) : AW c (call (.builtin "sorted") [.ref a] [(Str.ofString "key", .ref q)]) vals news Φ := by
  intro g s R
  obtain ⟨o, ho, ⟨n, rfl⟩, _⟩ := R.has hm
  refine srt_sorted (xs := xs) ⟨_, ho, rfl, n, rfl⟩ hp.length.symm h64 (fun i v x hv hx s' hs' => ?_) fun D h' tk out cc hE hD hD' hso => ?_
  · obtain ⟨y, hy, t, rfl⟩ := pgetL hp i v hv
    rw [hx] at hy
    cases hy
    exact wpAny_mono (hS x t c.A.in1.in1 s' hr.in2 (G.top.ext ((R.base.trans R.keep).trans hs')) (by intro p hp; cases hp)) (fun v s'' ⟨hk, tl, hv, _⟩ => ⟨hv.1, hk⟩) fun _ _ e => e
  · have R' : Rel c g vals news { s with heap := h', toks := tk } := R.grow hE
    refine ⟨vals, _, R'.add (tl := [(D, .list out.toList)]) (by simp) ?_, h D out.toList hso⟩
    intro p hp'
    rw [List.mem_singleton.mp hp']
    refine ⟨⟨_, hD', ⟨cc, by simp [seqObj]⟩, trivial⟩, fun z => ?_, ?_⟩
    · obtain ⟨o', ho'⟩ := R.lives _ z
      rw [hD] at ho'; cases ho'
    · cases z : g.get? D with
      | none => rfl
      | some o' => have := R.keep _ _ z; rw [hD] at this; cases this
end Mine
end

section
namespace Mine
open PySem PySem.W PyProof.Rows PySem.Calls
section
variable {c : Cx} {vals : Vals} {news : Led}
theorem AW.cBK {x name : Str} {p pos kp : Pos} {e value : Expr} {id : String} {Φ : Value → Vals → Led → Prop}
    (hf : AW c (eval (.Name x p) c.env) vals news fun a v n => a = .builtin id ∧ v = vals ∧ n = news)
    (he : backTo pos (starEach [e] c.env) = (false, eval e c.env) :: backTo pos (starEach [] c.env)) (hp : (backTo pos (starEach [e] c.env)).any (·.1) = false)
    (h : AW c (spliced (backTo pos (starEach [e] c.env))) vals news fun vs v n => AW c (eval value c.env) v n fun kv v n => AW c (call (.builtin id) vs [(name, kv)]) v n Φ) :
    AW c (eval (.Call (.Name x p) [e] [⟨some name, value, kp⟩] pos) c.env) vals news Φ := by
  intro g s R
  refine wpAny_Call_Name_kw (wpAny_mono (hf g s R) (fun a s₁ ⟨v, n, R₁, e1, e2, e3⟩ => ?_) fun _ _ e => e)
  subst e1 e2 e3
  refine callWith_kw (AW.then h R₁ fun vs s₂ v n R₂ q => ?_) he hp rfl rfl
  refine kws_cons (AW.then q R₂ fun kv s₃ v n R₃ q => ?_)
  exact kws_nil (q g s₃ R₃)

/-- a list of two, unpacked -/
theorem unpack_two {prog : Program} {w : World} {A : Around} {E : Value → Shared → Prop} {s : Shared} {l : Addr} {x y : Value} {Q : List Value → Shared → Prop} (hh : A.handled = none) (hl : s.heap.IsList l (List.toArray [x, y]))
    (hQ : ∀ h', Heap.ExtBut s.heap.objs.size s.heap h' → Q [x, y] { s with heap := h' }) : wpAny (model prog w) A (unpackItems (.ref l) 2 none) Q E s := by
  have hne : l ≠ s.heap.objs.size := by obtain ⟨o, ho, _⟩ := hl; exact Nat.ne_of_lt (Heap.lt_size ho)
  unfold unpackItems
  refine wpAny_bind ?_
  unfold notIterableAtAll
  refine wpAny_bind (wpAny_specialOf hl.typeIs slot_list_iter.lookup ?_)
  refine wpAny_pure ?_
  simp only [Bool.false_eq_true, if_false]
  refine wpAny_bind (wpAny_holding (wpAny_pyIter_list hl ?_))
  have hl0 := hl.push { cls := .type "list_iterator", data := .fields #[.ref l, .int 0 0] }
  refine wpAny_bind (wpAny_holding ?_)
  show wpAny _ A (pyNext (.ref s.heap.objs.size) >>= _) _ _ _
  refine wpAny_bind (wpAny_pyNext_list_item (i := 0) ⟨_, Heap.get?_push_size _ rfl, rfl, rfl⟩ hl0 (x := x) rfl fun h₁ hit₁ hs₁ => ?_)
  have hl1 := hl0.extBut hs₁.extBut hne
  refine wpAny_bind (wpAny_holding ?_)
  show wpAny _ A (pyNext (.ref s.heap.objs.size) >>= _) _ _ _
  refine wpAny_bind (wpAny_pyNext_list_item hit₁ hl1 (x := y) rfl fun h₂ hit₂ hs₂ => ?_)
  have hl2 := hl1.extBut hs₂.extBut hne
  refine wpAny_bind (wpAny_holding ?_)
  refine wpAny_pure (wpAny_pure (wpAny_pure ?_))
  rw [if_neg (by simp)]
  refine wpAny_bind (wpAny_holding (wpAny_pyNext_list_end hh hit₂ hl2 (by simp) fun h₃ he₃ => ?_))
  simp only [Option.isSome_none, Bool.false_eq_true, if_false]
  exact wpAny_pure (hQ h₃ fun b o hb e => he₃ b o hb (hs₂.extBut b o hb (hs₁.extBut b o hb (Heap.get?_push_of_some _ e))))
theorem AW.unpackL {e₁ e₂ : Expr} {k : Nat} {pos : Pos} {a : Addr} {x y : Value} {Φ : Unit → Vals → Led → Prop} (G : Ok c) (hm : HasL c news (a, .list [x, y]))
    (hE : (assignEach [e₁, e₂] c.env).map (·.2) = [assign e₁ c.env, assign e₂ c.env]) (hl : (assignEach [e₁, e₂] c.env).length = 2) (hstar : (assignEach [e₁, e₂] c.env).findIdx? (·.1) = none)
    (h : AW c (assign e₁ c.env x) vals news fun _ v n => AW c (assign e₂ c.env y) v n Φ) : AW c (assign (.Tuple [e₁, e₂] k pos) c.env (.ref a)) vals news Φ := by
  intro g s R
  obtain ⟨o, ho, ⟨n, rfl⟩, _⟩ := R.has hm
  rw [arm_assign_Tuple]
  refine wpAny_bind (wpAny_standAt ?_)
  unfold unpack
  rw [hl, hstar]
  refine wpAny_bind (wpAny_holding (unpack_two G.han ⟨_, ho, rfl, n, rfl⟩ fun h' he => ?_))
  have R' : Rel c g vals news { s with heap := h' } := R.grow (tk := s.toks) fun b o q => he b o (Nat.ne_of_lt (Heap.lt_size q)) q
  rw [hE]
  exact wpAny_assignInOrder_more (AW.then h R' fun _ _ _ _ r p => wpAny_assignInOrder_more (wpAny_mono (p g _ r) (fun _ _ q => wpAny_assignInOrder_none q) fun _ _ e => e))
end
end Mine
end

section
namespace Mine
open PySem PySem.W PyProof.Rows PySem.Calls
/-! the plain law: orders of four -/
noncomputable def P24 : List (List Nat) := [[0,1,2,3],[0,1,3,2],[0,2,1,3],[0,2,3,1],[0,3,1,2],[0,3,2,1],[1,0,2,3],[1,0,3,2],[1,2,0,3],[1,2,3,0],[1,3,0,2],[1,3,2,0],[2,0,1,3],[2,0,3,1],[2,1,0,3],[2,1,3,0],[2,3,0,1],[2,3,1,0],[3,0,1,2],[3,0,2,1],[3,1,0,2],[3,1,2,0],[3,2,0,1],[3,2,1,0]]
noncomputable def mv (p o : List Nat) : List Nat := o.map fun i => p.getD i 0
theorem mv_mem : ∀ p ∈ P24, ∀ o ∈ P24, mv p o ∈ P24 := by decide +kernel
theorem P24_small : ∀ p ∈ P24, p.length = 4 ∧ ∀ i ∈ p, i < 4 := by decide +kernel
theorem P24_one : [0, 1, 2, 3] ∈ P24 := by decide +kernel
theorem P24_nodup : P24.Nodup := by decide +kernel
theorem P24_all : ∀ a ∈ List.range 4, ∀ b ∈ List.range 4, ∀ c ∈ List.range 4, ∀ d ∈ List.range 4, [a, b, c, d].Nodup → [a, b, c, d] ∈ P24 := by decide +kernel
theorem P24_of_perm {p : List Nat} (h : p.Perm [0, 1, 2, 3]) : p ∈ P24 := by
  have hl : p.length = 4 := h.length_eq
  have hn : p.Nodup := h.nodup_iff.mpr (by decide)
  have hm : ∀ i ∈ p, i < 4 := fun i hi => by
    have := h.mem_iff.mp hi
    simp at this; omega
  match p, hl, hn, hm with
  | [a, b, c, d], _, hn, hm => exact P24_all a (List.mem_range.mpr (hm a (by simp))) b (List.mem_range.mpr (hm b (by simp))) c (List.mem_range.mpr (hm c (by simp))) d (List.mem_range.mpr (hm d (by simp))) hn
theorem nodup_le {α : Type} [DecidableEq α] : ∀ (l m : List α), l.Nodup → (∀ x ∈ l, x ∈ m) → l.length ≤ m.length
  | [], m, _, _ => Nat.zero_le _
  | x :: l, m, hn, hs => by
    have hx := hs x (by simp)
    have h := nodup_le l (m.erase x) (List.nodup_cons.mp hn).2 fun y hy => by
      have : y ≠ x := fun e => (List.nodup_cons.mp hn).1 (e ▸ hy)
      exact (List.mem_erase_of_ne this).mpr (hs y (by simp [hy]))
    rw [List.length_erase_of_mem hx] at h
    have : 0 < m.length := List.length_pos_of_mem hx
    rw [List.length_cons]; omega
theorem P24_le {l : List (List Nat)} (hn : l.Nodup) (hs : ∀ x ∈ l, x ∈ P24) : l.length ≤ 24 := nodup_le l P24 hn hs

inductive Gen (os : List (List Nat)) : List Nat → Prop where
  | one : Gen os [0, 1, 2, 3]
  | step {p o} : Gen os p → o ∈ os → Gen os (mv p o)
structure IsGroup (os ps : List (List Nat)) : Prop where
  nd : ps.Nodup
  one : [0, 1, 2, 3] ∈ ps
  sub : ∀ p ∈ ps, p ∈ P24
  cl : ∀ p ∈ ps, ∀ o ∈ os, mv p o ∈ ps
  gen : ∀ p ∈ ps, Gen os p

/-- the word of an order -/
noncomputable def wd (r : Str) (p : List Nat) : Str := ⟨(p.map fun i => r.cps.getD i 0).toArray⟩
structure Four (r : Str) : Prop where
  sz : r.cps.size = 4
  inj : ∀ i j, i < 4 → j < 4 → r.cps.getD i 0 = r.cps.getD j 0 → i = j
theorem map_inj {f : Nat → Nat} (hf : ∀ i j, i < 4 → j < 4 → f i = f j → i = j) : ∀ (p q : List Nat), (∀ i ∈ p, i < 4) → (∀ i ∈ q, i < 4) → p.map f = q.map f → p = q
  | [], [], _, _, _ => rfl
  | [], _ :: _, _, _, e => by cases e
  | _ :: _, [], _, _, e => by cases e
  | x :: p, y :: q, hp, hq, e => by
    simp only [List.map_cons, List.cons.injEq] at e
    rw [hf x y (hp x (by simp)) (hq y (by simp)) e.1, map_inj hf p q (fun i hi => hp i (by simp [hi])) (fun i hi => hq i (by simp [hi])) e.2]
theorem wd_inj {r : Str} (hr : Four r) {p q : List Nat} (hp : p ∈ P24) (hq : q ∈ P24) (e : wd r p = wd r q) : p = q := by
  refine map_inj hr.inj p q (P24_small p hp).2 (P24_small q hq).2 ?_
  have : (p.map fun i => r.cps.getD i 0).toArray = (q.map fun i => r.cps.getD i 0).toArray := congrArg Str.cps e
  simpa using this
theorem wd_one {r : Str} (hr : Four r) : wd r [0, 1, 2, 3] = r := by
  obtain ⟨⟨l⟩⟩ := r
  have hl : l.length = 4 := hr.sz
  match l, hl with
  | [a, b, c, d], _ => rfl
theorem wd_size {r : Str} {p : List Nat} : (wd r p).cps.size = p.length := by simp [wd]
theorem wd_get {r : Str} {p : List Nat} {i : Nat} (h : i < p.length) : (wd r p).cps.getD i 0 = r.cps.getD (p.getD i 0) 0 := by
  simp [wd, h]
theorem wd_mv {r : Str} {p o : List Nat} (hp : p ∈ P24) (ho : o ∈ P24) : (⟨(o.map fun i => (wd r p).cps.getD i 0).toArray⟩ : Str) = wd r (mv p o) := by
  have h4 := (P24_small p hp).1
  have : (o.map fun i => (wd r p).cps.getD i 0) = (mv p o).map fun i => r.cps.getD i 0 := by
    unfold mv
    rw [List.map_map]
    refine List.map_congr_left fun i hi => ?_
    rw [wd_get (by have := (P24_small o ho).2 i hi; omega)]; rfl
  rw [this]; rfl
theorem wd_mem {r : Str} (hr : Four r) {ps : List (List Nat)} (hs : ∀ p ∈ ps, p ∈ P24) {q : List Nat} (hq : q ∈ P24) : wd r q ∈ ps.map (wd r) ↔ q ∈ ps := by
  constructor
  · intro h
    obtain ⟨p, hp, e⟩ := List.mem_map.mp h
    rw [← wd_inj hr (hs p hp) hq e]; exact hp
  · exact fun h => List.mem_map_of_mem h
/-- orders that stand in a ledger -/
noncomputable def OrdL (need : Led) (orefs : List Value) (os : List (List Nat)) : Prop := Paired (fun v p => ∃ a vs, v = .ref a ∧ (a, .list vs) ∈ need ∧ Paired IsN vs p) orefs os
end Mine
end

namespace Mine
open PySem PySem.W PyProof.Rows PySem.Calls
local macro_rules | `(tactic| walk_at "look") => `(tactic| with_reducible first | exact .here | exact .l1 | exact .l2 | exact .l3 | exact .l4 | exact .l5 | exact .l6 | exact .l7 | (apply LookV.t8; walk_at "look"))
local macro_rules | `(tactic| walk_at "set") => `(tactic| with_reducible first | exact .here | exact .s1 | exact .s2 | exact .s3 | exact .s4 | exact .s5 | exact .s6 | exact .s7 | (apply SetV.t8; walk_at "set"))
local macro_rules | `(tactic| walk_at "upd") => `(tactic| with_reducible first | exact .here | exact .u1 | exact .u2 | exact .u3 | exact .u4 | exact .u5 | (apply Upd.there; walk_at "upd"))
local macro_rules | `(tactic| walk_at "mem") => `(tactic| with_reducible first | exact List.mem_cons_self | exact memL1 | exact memL2 | exact memL3 | exact memL4 | exact memL5 | (refine List.mem_cons_of_mem _ ?_; walk_at "mem") | assumption)
local macro_rules | `(tactic| walk_at "has") => `(tactic| first | exact Or.inl (by walk_at "mem") | exact Or.inr (by assumption) | ((with_reducible refine Elt.hasL (by assumption) ?_); walk_at "has") | ((with_reducible refine Inn.hasL (by assumption) ?_); walk_at "has"))
local macro_rules | `(tactic| walk_at "none") => `(tactic| kernel_rfl)
local macro_rules | `(tactic| walk_at "glob") => `(tactic| first
  | with_reducible exact gl_moved _ | with_reducible exact gl_ISEOF _ | with_reducible exact gl_ISNONTERMINAL _ | with_reducible exact gl_strcoll _ | with_reducible exact gl_strxfrm _ | with_reducible exact gl_order _ | with_reducible exact gl_number _ | with_reducible exact gl_written _ | with_reducible exact gl_group _ | with_reducible exact gl_lead _ | with_reducible exact gl_kinds _ | with_reducible exact gl_Whitespace _ | with_reducible exact gl_Int2AP _ | with_reducible exact gl_ENDMARKER _ | with_reducible exact gl_NT_OFFSET _)
local macro_rules | `(tactic| walk_at "blt1") => `(tactic| first
  | with_reducible exact bl_len _ | with_reducible exact bl_range _ | with_reducible exact bl_ord _ | with_reducible exact bl_chr _ | with_reducible exact bl_sorted _ | with_reducible exact bl_min _ | with_reducible exact bl_divmod _ | with_reducible exact bl_abs _ | with_reducible exact bl_int _ | with_reducible exact bl_tuple _ | with_reducible exact bl_enumerate _)
local macro_rules | `(tactic| walk_at "blt2") => `(tactic| first
  | with_reducible exact bb_len | with_reducible exact bb_range | with_reducible exact bb_ord | with_reducible exact bb_chr | with_reducible exact bb_sorted | with_reducible exact bb_min | with_reducible exact bb_divmod | with_reducible exact bb_abs | with_reducible exact bb_int | with_reducible exact bb_tuple | with_reducible exact bb_enumerate)
local macro_rules | `(tactic| walk_at "keep") => `(tactic| first
  | with_reducible exact (kin_fn _).1 | with_reducible exact (kin_fn _).2.1 | with_reducible exact (kin_fn _).2.2.1 | with_reducible exact (kin_fn _).2.2.2.1 | with_reducible exact (kin_fn _).2.2.2.2.1 | with_reducible exact (kin_fn _).2.2.2.2.2.1 | with_reducible exact (kin_fn _).2.2.2.2.2.2.1 | with_reducible exact (kin_fn _).2.2.2.2.2.2.2.1 | with_reducible exact (kin_fn _).2.2.2.2.2.2.2.2.1
  | with_reducible exact (kin_fn _).2.2.2.2.2.2.2.2.2.1 | with_reducible exact (kin_fn _).2.2.2.2.2.2.2.2.2.2.1 | with_reducible exact (kin_fn _).2.2.2.2.2.2.2.2.2.2.2 | with_reducible exact kin_cls _)
local macro_rules | `(tactic| walk_at "name") => `(tactic| first
  | ((with_reducible refine' AW.nameL (by assumption) ?k1 ?k2 ?k3 ?_); (case k1 => walk_at "look"); (case k2 => rfl); (case k3 => kernel_rfl))
  | ((with_reducible refine' AW.nameC (by assumption) ?k1 ?k2 ?k3 ?k4 ?_); (case k3 => rfl); (case k1 => rfl); (case k2 => walk_at "has"); (case k4 => kernel_rfl))
  | ((with_reducible refine' AW.nameG (by assumption) ?k1 ?k2 ?k3 ?_); (case k1 => walk_at "glob"); (case k2 => rfl); (case k3 => kernel_rfl))
  | ((with_reducible refine' AW.nameB' (by assumption) ?k1 ?k2 ?k3 ?k4 ?k5 ?_); (case k2 => walk_at "blt1"); (case k3 => walk_at "blt2"); (case k1 => rfl); (case k4 => kernel_rfl); (case k5 => kernel_rfl)))
set_option hygiene false in
local macro_rules | `(tactic| walk_at "hide") => `(tactic| ((with_reducible refine' AW.hide ?_); intro hPhi0 hPhi))
set_option hygiene false in
local macro_rules | `(tactic| walk_at "leaf") => `(tactic| (with_reducible refine' hPhi _ _ _ ?_))
set_option hygiene false in
local macro_rules | `(tactic| walk_at "wkh") => `(tactic| ((with_reducible refine' AW.wkH hPhi ?_); (try clear hPhi hPhi0); intro hPhi0 hPhi))
set_option hygiene false in
local macro_rules | `(tactic| walk_at "wkph") => `(tactic| ((with_reducible refine' AW.wkPH hPhi ?_); (try clear hPhi hPhi0); intro hPhi0 hPhi))
set_option hygiene false in
local macro_rules | `(tactic| walk_at "seq") => `(tactic| ((with_reducible refine' AW.cons ?_); intro hPsi0 hPsi))
set_option hygiene false in
local macro_rules | `(tactic| walk_at "go") => `(tactic| ((with_reducible refine' Seq.go hPsi ?_); clear hPsi hPsi0))
local macro_rules | `(tactic| walk_at "aw") => `(tactic| first
  | walk_at "name"
  | (with_reducible refine' AW.nil ?_)
  | walk_at "seq"
  | walk_at "go"
  | ((with_reducible refine' AW.assignN ?k1 ?_); (case k1 => rfl))
  | ((with_reducible refine' AW.storeL (by assumption) ?k1 ?k2 ?k3 ?_); (case k1 => walk_at "set"); (case k2 => rfl); (case k3 => rfl))
  | (with_reducible refine' AW.if_ ?_)
  | (with_reducible refine' AW.ret ?_)
  | (with_reducible refine' AW.augN ?_)
  | ((with_reducible refine' AW.loadL (by assumption) ?k1 ?k2 ?_); (case k1 => walk_at "look"); (case k2 => rfl))
  | (with_reducible refine' AW.assignName ?_)
  | ((with_reducible refine' AW.cInt ?_); intro _)
  | ((with_reducible refine' AW.cStr ?_); intro _)
  | (with_reducible refine' AW.cBool ?_)
  | (with_reducible refine' AW.bin ?_)
  | ((with_reducible refine' AW.addI ?_); intro _)
  | ((with_reducible refine' AW.subI ?_); intro _)
  | ((with_reducible refine' AW.iaddI ?_); intro _)
  | ((with_reducible refine' AW.tCmp ?k1 ?_); (case k1 => rfl))
  | ((with_reducible refine' AW.cmp ?k1 ?_); (case k1 => rfl))
  | (with_reducible refine' AW.eqI ?_)
  | (with_reducible refine' AW.neI ?_)
  | (with_reducible refine' AW.ltI ?_)
  | (with_reducible refine' AW.gtI ?_)
  | (with_reducible refine' AW.geI ?_)
  | (with_reducible refine' AW.eqS ?_)
  | (with_reducible refine' AW.neS ?_)
  | (with_reducible refine' AW.truthyB ?_)
  | (with_reducible refine' AW.truthyI ?_)
  | (with_reducible refine' AW.tNot ?_)
  | (with_reducible refine' AW.tAnd2 ?_)
  | (with_reducible refine' AW.tOr2 ?_)
  | (with_reducible refine' AW.list_ ?_)
  | (with_reducible refine' AW.tuple_ ?_)
  | (with_reducible refine' AW.sp0 ?_)
  | ((with_reducible refine' AW.sp1 ?k1 ?_); (case k1 => rfl))
  | ((with_reducible refine' AW.newL (by assumption) ?k1 ?_); (case k1 => exact Nat.le_of_ble_eq_true rfl); intro _)
  | ((with_reducible refine' AW.newT (by assumption) ?k1 ?_); (case k1 => exact Nat.le_of_ble_eq_true rfl); intro _)
  | (with_reducible refine' AW.sub ?_)
  | ((with_reducible refine' AW.newD (by assumption) ?_); intro _)
  | ((with_reducible refine' AW.tPlain ?_ ?k1); (case k1 => rfl))
  | ((with_reducible refine' AW.exprN ?k1 ?k2 ?_); (case k1 => rfl); (case k2 => rfl))
  | ((with_reducible refine' AW.ordC ?_); intro _)
  | ((with_reducible refine' AW.cF (by assumption) ?k1 ?k2 ?k3 ?k4 ?_); (case k1 => rfl); (case k2 => rfl); (case k3 => (walk_at "name"; exact ⟨rfl, rfl, rfl⟩)); (case k4 => walk_at "keep"))
  | ((with_reducible refine' AW.cB ?k1 ?k2 ?k3 ?_); (case k1 => rfl); (case k2 => rfl); (case k3 => (walk_at "name"; exact ⟨rfl, rfl, rfl⟩)))
  | ((with_reducible refine' AW.cT ?k1 ?k2 ?k3 ?_); (case k1 => rfl); (case k2 => rfl); (case k3 => (walk_at "name"; exact ⟨rfl, rfl, rfl⟩)))
  | ((with_reducible refine' AW.sliceE (by assumption) ?_))
  | (with_reducible refine' AW.partN ?_)
  | (with_reducible refine' AW.partS ?_)
  | ((with_reducible refine' AW.cBytes ?_); intro _)
  | ((with_reducible refine' AW.ifExp ?_))
  | ((with_reducible refine' AW.un ?_))
  | ((with_reducible refine' AW.negI ?_); intro _)
  | ((with_reducible refine' AW.assignT ?k1 ?k2 ?_); (case k1 => rfl); (case k2 => rfl))
  | ((with_reducible refine' AW.intI ?_))
  | ((with_reducible refine' AW.absI ?_); intro _)
  | (with_reducible refine' AW.brk ?_)
  | (with_reducible refine' Seq.ret ?_)
  | (with_reducible refine' Seq.brk ?_)
  | (with_reducible refine' AW.tests0i ?_)
  | walk_at "leaf")
local macro_rules | `(tactic| walk_at "turn") => `(tactic| (walk_at "aw"; walk_at "aw"; walk_at "hide"; (repeat walk_at "aw")))
local macro_rules | `(tactic| walk_at "callF") => `(tactic| ((with_reducible refine' AW.cF (by assumption) ?k1 ?k2 ?k3 ?k4 ?_); (case k1 => rfl); (case k2 => rfl); (case k3 => (walk_at "name"; exact ⟨rfl, rfl, rfl⟩)); (case k4 => walk_at "keep")))
local macro_rules | `(tactic| walk_at "callB") => `(tactic| ((with_reducible refine' AW.cB ?k1 ?k2 ?k3 ?_); (case k1 => rfl); (case k2 => rfl); (case k3 => (walk_at "name"; exact ⟨rfl, rfl, rfl⟩))))
local macro_rules | `(tactic| walk_at "callT") => `(tactic| ((with_reducible refine' AW.cT ?k1 ?k2 ?k3 ?_); (case k1 => rfl); (case k2 => rfl); (case k3 => (walk_at "name"; exact ⟨rfl, rfl, rfl⟩))))
local macro_rules | `(tactic| walk_at "m_append") => `(tactic| ((with_reducible refine' AW.cM F.plainAttrs_list slotAppend F.type_list_append ?k1 ?k2 ?k3 ?k4 ?k5 ?_); (case k1 => rfl); (case k2 => rfl); (case k3 => rfl); (case k4 => rfl); (case k5 => rfl)))
local macro_rules | `(tactic| walk_at "m_pop") => `(tactic| ((with_reducible refine' AW.cM F.plainAttrs_list slotPop F.type_list_pop ?k1 ?k2 ?k3 ?k4 ?k5 ?_); (case k1 => rfl); (case k2 => rfl); (case k3 => rfl); (case k4 => rfl); (case k5 => rfl)))
local macro_rules | `(tactic| walk_at "for") => `(tactic| ((with_reducible refine' AW.for0 (by assumption) ?k1 ?k2 ?_); (case k1 => rfl); (case k2 => intro _; rfl)))
local macro_rules | `(tactic| walk_at "one") => `(tactic| (intro _ hp1; exact one_src (by walk_at "has") hp1))
local macro_rules | `(tactic| walk_at "m_join") => `(tactic| ((with_reducible refine' AW.cM F.plainAttrs_str slotJoin F.type_str_join ?k1 ?k2 ?k3 ?k4 ?k5 ?_); (case k1 => rfl); (case k2 => rfl); (case k3 => rfl); (case k4 => rfl); (case k5 => rfl)))
local macro_rules | `(tactic| walk_at "comp") => `(tactic| ((case h1 => rfl); (case h2 => decide); (case h3 => rfl); (case h4 => decide); (case h5 => rfl); (case h6 => intro _; rfl)))
local macro_rules | `(tactic| walk_at "tailS") => `(tactic| ((with_reducible refine' AW.tailS ?k1 ?_); (case k1 => with_unfolding_all rfl)))
local macro_rules | `(tactic| walk_at "tailL") => `(tactic| ((with_reducible refine' AW.tailL ?k0 ?k1 ?_); (case k0 => walk_at "has"); (case k1 => with_unfolding_all rfl)))
local macro_rules | `(tactic| walk_at "tailD") => `(tactic| ((with_reducible refine' AW.tailD ?k0 ?k1 ?_); (case k0 => walk_at "has"); (case k1 => with_unfolding_all rfl)))
local macro_rules | `(tactic| walk_at "unpack2") => `(tactic| ((with_reducible refine' AW.unpack2 (by assumption) ?k0 ?k1 ?k2 ?k3 ?_); (case k0 => walk_at "has"); (case k1 => rfl); (case k2 => rfl); (case k3 => rfl)))
local macro_rules | `(tactic| walk_at "tailB") => `(tactic| ((with_reducible refine' AW.tailB ?k1 ?_); (case k1 => with_unfolding_all rfl)))
local macro_rules | `(tactic| walk_at "subl") => `(tactic| first | (with_reducible exact List.Sublist.refl _) | ((with_reducible apply List.Sublist.cons_cons); walk_at "subl") | ((with_reducible apply List.Sublist.cons); walk_at "subl") | (with_reducible exact List.nil_sublist _) | assumption)
local macro_rules | `(tactic| walk_at "cells") => `(tactic| ((with_reducible refine' AW.storeC (by assumption) ?k1 ?k2 ?k3 ?k4 ?_); (case k1 => rfl); (case k2 => walk_at "mem"); (case k3 => rfl); (case k4 => walk_at "upd")))
local macro_rules | `(tactic| walk_at "comp2") => `(tactic| ((case h1 => rfl); (case h2 => decide); (case h3 => rfl); (case h4 => decide); (case h5 => intro _; rfl); (case h6 => decide +kernel)))
local macro_rules | `(tactic| walk_at "next2") => `(tactic| ((case h1 => intro _; rfl); (case h2 => intro _; rfl); (case h3 => intro _; rfl)))
local macro_rules | `(tactic| walk_at "m_index") => `(tactic| ((with_reducible refine' AW.cM F.plainAttrs_str slotIndex F.type_str_index ?k1 ?k2 ?k3 ?k4 ?k5 ?_); (case k1 => rfl); (case k2 => rfl); (case k3 => rfl); (case k4 => rfl); (case k5 => rfl)))
local macro_rules | `(tactic| walk_at "m_get") => `(tactic| ((with_reducible refine' AW.cM F.plainAttrs_dict slotGet F.type_dict_get ?k1 ?k2 ?k3 ?k4 ?k5 ?_); (case k1 => rfl); (case k2 => rfl); (case k3 => rfl); (case k4 => rfl); (case k5 => rfl)))
local macro_rules | `(tactic| walk_at "tailT") => `(tactic| ((with_reducible refine' AW.tailT ?k0 ?k1 ?_); (case k0 => walk_at "has"); (case k1 => with_unfolding_all rfl)))
local macro_rules | `(tactic| walk_at "attr") => `(tactic| ((with_reducible refine' AW.attrE ?k1 ?_); (case k1 => with_unfolding_all rfl)))
local macro_rules | `(tactic| walk_at "wkv") => `(tactic| repeat (first | with_reducible exact WkV.nil | with_reducible apply WkV.drop | with_reducible apply WkV.keep))
local macro_rules | `(tactic| walk_at "asgcomp") => `(tactic| ((case h0 => rfl); (case h1 => rfl); (case h2 => decide); (case h3 => rfl); (case h4 => decide); (case h5 => intro _; rfl); (case h6 => decide +kernel)))

local macro_rules | `(tactic| walk_at "lookall") => `(tactic| repeat (first | with_reducible exact .nil | with_reducible apply LookAll.no | ((with_reducible refine' LookAll.has ?k1 ?_); (case k1 => walk_at "look"))))
local macro_rules | `(tactic| walk_at "back") => `(tactic| repeat (first | with_reducible exact Back.nil | ((with_reducible apply Back.new); (focus walk_at "look")) | ((with_reducible apply Back.keep); (focus decide +kernel)) | with_reducible apply Back.drop))
local macro_rules | `(tactic| walk_at "bk") => `(tactic| ((with_reducible apply Exists.intro); (with_reducible apply And.intro); (focus walk_at "back")))

theorem fmod_small {a b : Int} (hb : 0 < b) : 0 ≤ a.fmod b ∧ a.fmod b < b := ⟨Int.fmod_nonneg_of_pos a hb, Int.fmod_lt_of_pos a hb⟩
theorem erase_perm : ∀ (l : List Nat) (i x : Nat), l[i]? = some x → (x :: l.eraseIdx i).Perm l
  | [], i, x, e => by simp at e
  | y :: l, 0, x, e => by simp at e; subst e; exact List.Perm.refl _
  | y :: l, i + 1, x, e => by
    have := erase_perm l i x (by simpa using e)
    rw [List.eraseIdx_cons_succ]
    exact (List.Perm.swap y x _).trans (this.cons y)
theorem perm_pop {l o : List Nat} {i : Nat} {x : Nat} (e : l[i]? = some x) (h : (o ++ l).Perm [0, 1, 2, 3]) : ((o ++ [x]) ++ l.eraseIdx i).Perm [0, 1, 2, 3] := by
  refine List.Perm.trans ?_ h
  rw [List.append_assoc]
  exact List.Perm.append_left _ (erase_perm l i x e)

inductive IOrder (aL aO aT : Addr) (tv : MO) (i : Nat) : Vals → Led → Prop where
  | mk (l o : List Nat) (lv ov : List Value) (ce : Int) (tc : Tok) (sz : Option Value) (h1 : Paired IsN lv l) (h2 : Paired IsN ov o) (h3 : l.length = 4 - i) (h4 : o.length = i) (h5 : (o ++ l).Perm [0, 1, 2, 3]) (h6 : 0 ≤ ce) :
    IOrder aL aO aT tv i [some (.int ce tc), some (.ref aL), some (.ref aO), sz] [(aT, tv), (aO, .list ov), (aL, .list lv)]
theorem order_spec (w : World) (cell : Int) (t : Tok) (h0 : 0 ≤ cell) : Spec w 1 (.ref 129) [.int cell t] []
    (fun v tl => ∃ a vs p, v = .ref a ∧ tl = [(a, .list vs)] ∧ Paired IsN vs p ∧ p.Perm [0, 1, 2, 3]) := by
  refine enter (binds := [(Str.ofString "cell", .int cell t)]) [Str.ofString "cell", Str.ofString "left", Str.ofString "order", Str.ofString "size"] [some (.int cell t), none, none, none] rfl rfl (by kernel_rfl) rfl
    (by decide) (locs rfl) rfl rfl rfl rfl rfl (by decide +kernel) (.has (by kernel_rfl) (.no (.no (.no .nil)))) ?_
  intro A L s G hr hn
  walk_at "hide"
  repeat walk_at "aw"
  walk_at "for"
  repeat walk_at "aw"
  rename_i aL aO t4 t3 t2 t1 aT
  refine ⟨[(aT, .tup [.int 4 t4, .int 3 t3, .int 2 t2, .int 1 t1])], 4, _, IOrder aL aO aT (.tup [.int 4 t4, .int 3 t3, .int 2 t2, .int 1 t1]), starts_tuple, ?_, ?_, ?_, ?_, ?_⟩
  · walk_at "one"
  · exact ⟨[0, 1, 2, 3], [], _, _, _, _, _, .cons ⟨_, rfl⟩ (.cons ⟨_, rfl⟩ (.cons ⟨_, rfl⟩ (.cons ⟨_, rfl⟩ .nil))), .nil, rfl, rfl, by simp, h0⟩
  · rintro i v₂ n₂ ⟨l, o, lv, ov, ce, tc, sz, h1, h2, h3, h4, h5, h6⟩
    walk_at "one"
  · rintro i hPhi0 hPhi v v₂ n₂ hi hv ⟨l, o, lv, ov, ce, tc, sz, h1, h2, h3, h4, h5, h6⟩
    have hvi : ∃ tz, v = .int ((4 - i : Nat) : Int) tz := by
      rcases i with _ | _ | _ | _ | i <;> simp at hv <;> first | exact ⟨_, hv.symm⟩ | omega
    obtain ⟨tz, rfl⟩ := hvi
    obtain ⟨m1, m2⟩ := fmod_small (a := ce) (b := ((4 - i : Nat) : Int)) (by omega)
    obtain ⟨x, hx⟩ : ∃ x, l[(ce.fmod ((4 - i : Nat) : Int)).toNat]? = some x := ⟨l[(ce.fmod ((4 - i : Nat) : Int)).toNat]'(by omega), List.getElem?_eq_getElem _⟩
    obtain ⟨y, hy, tx, rfl⟩ := pget h1 _ _ hx
    have hlen := h1.length
    have hlen2 := h2.length
    repeat walk_at "aw"
    walk_at "m_append"
    repeat walk_at "aw"
    refine ⟨isL (by walk_at "has"), ?_⟩
    repeat walk_at "aw"
    walk_at "m_pop"
    repeat walk_at "aw"
    refine ⟨isL (by walk_at "has"), ?_⟩
    repeat walk_at "aw"
    refine AW.modI (by omega) fun _ => ?_
    repeat walk_at "aw"
    refine AW.popAt (by walk_at "mem") m1 (by omega) hy (by walk_at "upd") (by rw [sizeLine_eq]; omega) ?_
    repeat walk_at "aw"
    refine AW.append (by walk_at "mem") (by walk_at "upd") (by rw [sizeLine_eq]; omega) ?_
    refine ⟨rfl, ?_⟩
    repeat walk_at "aw"
    refine AW.divI (by omega) (by omega) fun _ => ?_
    repeat walk_at "aw"
    refine ⟨_, _, _, _, _, _, _, perase h1 _, h2.snoc ⟨_, rfl⟩, ?_, ?_, perm_pop hx h5, ?_⟩
    · rw [List.length_eraseIdx]; split <;> omega
    · simp; omega
    · exact Int.fdiv_nonneg (by omega) (by omega)
  · rintro v₂ n₂ ⟨l, o, lv, ov, ce, tc, sz, h1, h2, h3, h4, h5, h6⟩
    repeat walk_at "aw"
    have hl : l = [] := List.eq_nil_of_length_eq_zero (by omega)
    subst hl
    exact ⟨[(aO, .list ov)], by simp, aO, ov, o, rfl, rfl, h2, by simpa using h5⟩

theorem eof_spec (w : World) (x : Int) (t : Tok) : Spec w 1 (.ref 122) [.int x t] [] (OneR fun _ => .bool (x == 0)) := by
  refine enter (binds := [(Str.ofString "x", .int x t)]) [Str.ofString "x"] [some (.int x t)] rfl rfl (by kernel_rfl) rfl
    (by decide) (locs rfl) rfl rfl rfl rfl rfl (by decide +kernel) (.has (by kernel_rfl) .nil) ?_
  intro A L s G hr hn
  repeat walk_at "aw"
  exact oneR ⟨0, rfl⟩
theorem nont_spec (w : World) (x : Int) (t : Tok) : Spec w 1 (.ref 115) [.int x t] [] (OneR fun _ => .bool (decide (256 ≤ x))) := by
  refine enter (binds := [(Str.ofString "x", .int x t)]) [Str.ofString "x"] [some (.int x t)] rfl rfl (by kernel_rfl) rfl
    (by decide) (locs rfl) rfl rfl rfl rfl rfl (by decide +kernel) (.has (by kernel_rfl) .nil) ?_
  intro A L s G hr hn
  repeat walk_at "aw"
  exact oneR ⟨0, rfl⟩
theorem coll_spec (w : World) (x y : Str) (t u : Tok) : Spec w 1 (.ref 101) [.str x t, .str y u] [] (OneR fun t => .int (b2i (decide (y.cps.toList < x.cps.toList)) - b2i (decide (x.cps.toList < y.cps.toList))) t) := by
  refine enter (binds := [(Str.ofString "a", .str x t), (Str.ofString "b", .str y u)]) [Str.ofString "a", Str.ofString "b"] [some (.str x t), some (.str y u)] rfl rfl (by kernel_rfl) rfl
    (by decide) (locs rfl) rfl rfl rfl rfl rfl (by decide +kernel) (.has (by kernel_rfl) (.has (by kernel_rfl) .nil)) ?_
  intro A L s G hr hn
  repeat walk_at "aw"
  refine AW.gtS ?_
  repeat walk_at "aw"
  refine AW.ltS ?_
  refine AW.subB fun _ => ?_
  exact oneR ⟨_, rfl⟩

theorem pcomp {α β γ : Type} {F : α → β → Prop} {G : α → γ → Prop} {H : β → γ → Prop} (k : ∀ a b c, F a b → G a c → H b c) : ∀ {l : List α} {m : List β} {n : List γ}, Paired F l m → Paired G l n → Paired H m n
  | _, _, _, .nil, .nil => .nil
  | _, _, _, .cons h t, .cons h' t' => .cons (k _ _ _ h h') (pcomp k t t')
theorem pflip {α β : Type} {F : α → β → Prop} : ∀ {l : List α} {m : List β}, Paired F l m → Paired (fun b a => F a b) m l
  | _, _, .nil => .nil
  | _, _, .cons h t => .cons h (pflip t)
theorem pmap {α β γ : Type} {F : α → β → Prop} (f : β → γ) {G : α → γ → Prop} (k : ∀ a b, F a b → G a (f b)) : ∀ {l : List α} {m : List β}, Paired F l m → Paired G l (m.map f)
  | _, _, .nil => .nil
  | _, _, .cons h t => .cons (k _ _ h) (pmap f k t)

theorem moved_spec (w : World) (x : Str) (t : Tok) (a : Addr) (vs : List Value) (p : List Nat) (hvs : Paired IsN vs p) (hp : ∀ i ∈ p, i < x.cps.size) (hx : x.cps.size ≤ 1000) (hlen : p.length ≤ 1000) :
    Spec w 1 (.ref 134) [.str x t, .ref a] [(a, .list vs)] (OneR fun t => .str ⟨(p.map fun i => x.cps.getD i 0).toArray⟩ t) := by
  refine enterC (binds := [(Str.ofString "word", .str x t), (Str.ofString "order", .ref a)]) [Str.ofString "order"] [some (.ref a)] (fun L => [(L + 1, .cell (some (.str x t)))]) rfl rfl (by kernel_rfl) rfl rfl
    ?_ rfl rfl rfl rfl rfl (by decide +kernel) ?_ ?_ ?_
  · intro n y hy
    rcases List.mem_cons.mp hy with rfl | hy
    · exact .inr ⟨rfl, rfl⟩
    · rw [List.mem_singleton.mp hy]; exact .inl rfl
  · intro L i y v h1 h2
    rcases i with _ | i
    · simp at h1 h2; rw [← h1, ← h2]; rfl
    · simp at h1
  · intro L
    refine ⟨by simp, fun p hp => ?_⟩
    rw [List.mem_singleton.mp hp]
    exact ⟨Str.ofString "word", some (.str x t), rfl, rfl, rfl⟩
  intro A L s G hr hn
  have ha := hn (a, .list vs) (by simp)
  repeat walk_at "aw"
  walk_at "m_join"
  repeat walk_at "aw"
  refine ⟨isS, ?_⟩
  repeat walk_at "aw"
  with_reducible refine' AW.comp (fun v y => ∃ n, IsN v n ∧ IsStr y (chr1 (x.cps.getD n 0))) G ?h1 ?h2 ?h3 ?h4 ?h5 ?h6 ?_
  walk_at "comp"
  repeat walk_at "aw"
  refine ⟨_, _, _, feeds_list G, by walk_at "one", ?_, ?_, ?_⟩
  · rw [hvs.length, sizeLine_eq]; omega
  · rintro C s' i v hv e
    obtain ⟨n, hn', tn, rfl⟩ := pgetL hvs _ _ hv
    have G' := e.ok
    have hlt := hp n (List.mem_of_getElem? hn')
    repeat walk_at "aw"
    walk_at "tailS"
    refine AW.getS (k := x.cps.getD n 0) (by omega) ?_ ?_ fun t => ?_
    · omega
    · simp [hlt]
    · exact ⟨n, ⟨_, rfl⟩, _, rfl⟩
  · intro a' vs' ys hl hv hpair
    have e1 : vs' = vs := by
      refine List.ext_getElem? fun j => ?_
      rcases Nat.lt_or_ge j vs'.length with q | q
      · rw [List.getElem?_eq_getElem q]; exact (hv j _ (List.getElem?_eq_getElem q)).symm
      · rw [List.getElem?_eq_none q, List.getElem?_eq_none (by omega)]
    subst e1
    have h2 : Paired IsStr ys ((p.map fun i => x.cps.getD i 0).map chr1) := by
      rw [List.map_map]
      exact pmap (F := fun y n => IsStr y (chr1 (x.cps.getD n 0))) _ (fun _ _ h => h) ((pcomp (fun v y n h hn => by
        obtain ⟨m, ⟨t1, h1⟩, h3⟩ := h
        obtain ⟨t2, h4⟩ := hn
        rw [h1] at h4
        have e : (m : Int) = n := by injection h4
        have e' : m = n := by omega
        exact e' ▸ h3) hpair hvs))
    repeat walk_at "aw"
    refine AW.joinC (by walk_at "has") h2 (by simpa using hlen) fun _ => ?_
    exact oneR ⟨_, rfl⟩

noncomputable def numS (l : List Nat) : Int := l.foldl (fun (n : Int) (c : Nat) => n * 16 + (c : Int) - 65) 0
theorem numS_snoc (l : List Nat) (c : Nat) : numS (l ++ [c]) = numS l * 16 + c - 65 := by simp [numS]

inductive INumber (x : Str) (t : Tok) (i : Nat) : Vals → Led → Prop where
  | mk (tn : Tok) (z : Option Value) : INumber x t i [some (.str x t), some (.int (numS (x.cps.toList.take i)) tn), z] []
theorem number_spec (w : World) (x : Str) (t : Tok) : Spec w 1 (.ref 141) [.str x t] [] (OneR fun t => .int (numS x.cps.toList) t) := by
  refine enter (binds := [(Str.ofString "word", .str x t)]) [Str.ofString "word", Str.ofString "number", Str.ofString "sign"] [some (.str x t), none, none] rfl rfl (by kernel_rfl) rfl
    (by decide) (locs rfl) rfl rfl rfl rfl rfl (by decide +kernel) (.has (by kernel_rfl) (.no (.no .nil))) ?_
  intro A L s G hr hn
  repeat walk_at "aw"
  walk_at "for"
  repeat walk_at "aw"
  refine ⟨[], _, _, INumber x t, starts_str, ?_, ?_, ?_, ?_, ?_⟩
  · intro p hp; cases hp
  · exact ⟨_, _⟩
  · intro i v₂ n₂ _ p hp; cases hp
  · rintro i hPhi0 hPhi v v₂ n₂ hi ⟨c, u, hc, rfl⟩ ⟨tn, z⟩
    repeat walk_at "aw"
    refine AW.mulS (by decide) fun _ => ?_
    repeat walk_at "aw"
    have e : x.cps.toList.take (i + 1) = x.cps.toList.take i ++ [c] := by
      rw [List.take_add_one]
      have : x.cps.toList[i]? = some c := by simpa using hc
      rw [this]; rfl
    have q := fun tn z => INumber.mk (x := x) (t := t) (i := i + 1) tn z
    rw [e, numS_snoc] at q
    exact q _ _
  · rintro v₂ n₂ ⟨tn, z⟩
    repeat walk_at "aw"
    rw [List.take_of_length_le (by simp)]
    exact oneR ⟨_, rfl⟩

noncomputable def digs : Nat → Nat → List Nat
  | 0, _ => []
  | f + 1, n => if n = 0 then [] else digs f (n / 16) ++ [n % 16]
theorem digs_more : ∀ (f n : Nat), n < 2 ^ f → ∀ g, f ≤ g → digs g n = digs f n
  | 0, n, h, g, _ => by
    have : n = 0 := by omega
    subst this
    cases g <;> simp [digs]
  | f + 1, n, h, g, hg => by
    obtain ⟨g, rfl⟩ : ∃ k, g = k + 1 := ⟨g - 1, by omega⟩
    unfold digs
    split
    · rfl
    · rw [digs_more f (n / 16) (by rw [Nat.pow_succ] at h; omega) g (by omega)]
/-- the sixteen letters' digits of a number -/
noncomputable def hexa (n : Nat) : List Nat := digs n n
theorem hexa_zero : hexa 0 = [] := rfl
theorem hexa_step (n : Nat) (h : n ≠ 0) : hexa n = hexa (n / 16) ++ [n % 16] := by
  unfold hexa
  obtain ⟨k, rfl⟩ : ∃ k, n = k + 1 := ⟨n - 1, by omega⟩
  have e : digs (k + 1) (k + 1) = digs k ((k + 1) / 16) ++ [(k + 1) % 16] := by
    conv => lhs; unfold digs
    rw [if_neg (by omega)]
  rw [e, digs_more ((k + 1) / 16) ((k + 1) / 16) Nat.lt_two_pow_self k (by omega)]
theorem hexa_lt (n : Nat) : ∀ d ∈ hexa n, d < 16 := by
  induction n using Nat.strongRecOn with
  | ind n ih =>
    by_cases h : n = 0
    · subst h; intro d hd; cases hd
    · rw [hexa_step n h]
      intro d hd
      rcases List.mem_append.mp hd with hd | hd
      · exact ih (n / 16) (by omega) d hd
      · rw [List.mem_singleton.mp hd]; omega
theorem hexa_len (n : Nat) (k : Nat) (h : n < 16 ^ k) : (hexa n).length ≤ k := by
  induction k generalizing n with
  | zero => have : n = 0 := by simpa using h
            subst this; exact Nat.le_refl _
  | succ k ih =>
    by_cases h0 : n = 0
    · subst h0; exact Nat.zero_le _
    · rw [hexa_step n h0, List.length_append, List.length_singleton]
      have := ih (n / 16) (by rw [Nat.pow_succ] at h; omega)
      omega
noncomputable def octs (l : List Nat) : Array UInt8 := (l.map fun d => UInt8.ofNat (65 + d)).toArray
theorem octs_append (a b : List Nat) : octs (a ++ b) = octs a ++ octs b := by simp [octs]
noncomputable def APb : List UInt8 := [65, 66, 67, 68, 69, 70, 71, 72, 73, 74, 75, 76, 77, 78, 79, 80]
theorem pick_AP : ∀ d : Nat, d < 16 → KBy.picked APb.toArray (some (d : Int)) (some ((d : Int) + 1)) = octs [d] := by
  intro d hd
  rcases d with _ | _ | _ | _ | _ | _ | _ | _ | _ | _ | _ | _ | _ | _ | _ | _ | d <;> first | omega | decide +kernel

theorem ap_spec (w : World) (n : Int) (t : Tok) (hn : n.natAbs < 16 ^ 8) : Spec w 1 (.ref 94) [.int n t] [] (OneR fun t => .bytes (octs (hexa n.natAbs)) t) := by
  refine enter (binds := [(Str.ofString "num", .int n t)]) [Str.ofString "num", Str.ofString "val", Str.ofString "AP", Str.ofString "mod"] [some (.int n t), none, none, none] rfl rfl (by kernel_rfl) rfl
    (by decide) (locs rfl) rfl rfl rfl rfl rfl (by decide +kernel) (.has (by kernel_rfl) (.no (.no (.no .nil)))) ?_
  intro A L s G hr hn'
  repeat walk_at "aw"
  refine AW.while_ (k₀ := n.natAbs) (fun k v _ => ∃ (rest : List Nat) (t1 t2 t3 : Tok) (md : Option Value), k ≤ n.natAbs ∧ hexa n.natAbs = hexa k ++ rest ∧ v = [some (.int k t1), some (.bytes (octs rest) t2), some (.bytes APb.toArray t3), md]) ?_ ?_
  · have e : (if n < 0 then -n else n) = (n.natAbs : Int) := by split <;> omega
    rw [e]
    exact ⟨[], _, _, _, _, Nat.le_refl _, by simp, rfl⟩
  · rintro k v nn ⟨rest, t1, t2, t3, md, hk, he, rfl⟩
    have hlen := hexa_len n.natAbs 8 hn
    rw [he, List.length_append] at hlen
    repeat walk_at "aw"
    by_cases hz : k = 0
    · subst hz
      refine ifN (by decide) ?_
      repeat walk_at "aw"
      rw [he]
      exact oneR ⟨_, rfl⟩
    · have hb : (((k : Nat) : Int) != 0) = true := by simpa using hz
      refine ifT hb ?_
      repeat walk_at "aw"
      have e1 : ((k : Nat) : Int).fdiv 16 = ((k / 16 : Nat) : Int) := by rw [Int.fdiv_eq_ediv_of_nonneg _ (by decide)]; omega
      have e2 : ((k : Nat) : Int).fmod 16 = ((k % 16 : Nat) : Int) := by rw [Int.fmod_eq_emod_of_nonneg _ (by decide)]; omega
      refine AW.divmodI (by assumption) (by decide) (by decide) fun _ _ _ => ?_
      rw [e1, e2]
      repeat walk_at "aw"
      walk_at "unpack2"
      repeat walk_at "aw"
      intro _
      walk_at "tailB"
      refine AW.getBy (by walk_at "has") (by decide) fun _ => ?_
      rw [pick_AP (k % 16) (by omega)]
      repeat walk_at "aw"
      refine AW.addBy (by simp [octs]; omega) fun _ => ?_
      repeat walk_at "aw"
      rw [← octs_append]
      exact ⟨k / 16, by omega, (k % 16) :: rest, _, _, _, _, by omega, by rw [he, hexa_step k hz]; simp, rfl⟩

theorem octs_get (l : List Nat) (hl : ∀ d ∈ l, d < 16) (i : Nat) (k : UInt8) (h : (octs l)[i]? = some k) : ∃ d, l[i]? = some d ∧ (k.toNat : Int).toNat = 65 + d ∧ d < 16 := by
  unfold octs at h
  rw [List.getElem?_toArray, List.getElem?_map] at h
  cases e : l[i]? with
  | none => rw [e] at h; cases h
  | some d =>
    rw [e] at h
    have hd := hl d (List.mem_of_getElem? e)
    refine ⟨d, rfl, ?_, hd⟩
    simp at h
    rw [← h]
    have : (65 + UInt8.ofNat d).toNat = 65 + d := by
      rw [UInt8.toNat_add, UInt8.toNat_ofNat']
      have e65 : (65 : UInt8).toNat = 65 := by decide
      rw [e65]; omega
    first | exact this | (simp; omega) | (rw [UInt8.toNat_ofNat']; omega)

theorem paired_of {α β : Type} {F : α → β → Prop} : ∀ {l : List α} {m : List β}, l.length = m.length → (∀ (i : Nat) a, l[i]? = some a → ∃ b, m[i]? = some b ∧ F a b) → Paired F l m
  | [], [], _, _ => .nil
  | a :: l, b :: m, h, k => .cons (by obtain ⟨b', e, f⟩ := k 0 a rfl; simp at e; rw [e]; exact f) (paired_of (by simpa using h) fun i a' e => by
      obtain ⟨b', e', f⟩ := k (i + 1) a' (by simpa using e)
      exact ⟨b', by simpa using e', f⟩)

theorem written_spec (w : World) (n : Int) (t : Tok) (hn : n.natAbs < 16 ^ 8) : Spec w 2 (.ref 146) [.int n t] [] (OneR fun t => .str ⟨((hexa n.natAbs).map (65 + ·)).toArray⟩ t) := by
  have hlen := hexa_len n.natAbs 8 hn
  have hlt := hexa_lt n.natAbs
  refine enter (binds := [(Str.ofString "number", .int n t)]) [Str.ofString "number"] [some (.int n t)] rfl rfl (by kernel_rfl) rfl
    (by decide) (locs rfl) rfl rfl rfl rfl rfl (by decide +kernel) (.has (by kernel_rfl) .nil) ?_
  intro A L s G hr hn'
  repeat walk_at "aw"
  walk_at "m_join"
  repeat walk_at "aw"
  refine ⟨isS, ?_⟩
  repeat walk_at "aw"
  with_reducible refine' AW.comp (fun v y => ∃ k : Int, (∃ t, v = .int k t) ∧ IsStr y (chr1 k.toNat)) G ?h1 ?h2 ?h3 ?h4 ?h5 ?h6 ?_
  walk_at "comp"
  repeat walk_at "aw"
  refine AW.callO (ap_spec w n _ hn) hr G (by intro p hp; cases hp) fun tb => ?_
  refine ⟨_, _, _, feeds_bytes G, (by intro p hp; cases hp), ?_, ?_, ?_⟩
  · simp [octs, sizeLine_eq]; omega
  · rintro C s' i v ⟨k, u, hk, rfl⟩ e
    have G' := e.ok
    obtain ⟨d, hd, hd2, hd3⟩ := octs_get _ hlt i k hk
    repeat walk_at "aw"
    refine AW.chrI (by omega) (by omega) fun _ => ?_
    exact ⟨_, ⟨_, rfl⟩, _, rfl⟩
  · intro a' vs' ys hl hv hpair
    have h2 : Paired IsStr ys (((hexa n.natAbs).map (65 + ·)).map chr1) := by
      refine paired_of ?_ ?_
      · rw [hpair.length.symm, hl]; simp [octs]
      · intro j y hy
        obtain ⟨v, hv1, k, ⟨t1, rfl⟩, h3⟩ := pget hpair j y hy
        obtain ⟨b, u, hk, e2⟩ := hv j _ hv1
        obtain ⟨d, hd, hd2, hd3⟩ := octs_get _ hlt j b hk
        refine ⟨chr1 (65 + d), by simp [hd], ?_⟩
        have : k = (b.toNat : Int) := by injection e2
        rw [this, hd2] at h3
        exact h3
    repeat walk_at "aw"
    refine AW.joinC (by walk_at "has") h2 (by simp; omega) fun _ => ?_
    exact oneR ⟨_, rfl⟩

structure GS (r : Str) (os ps : List (List Nat)) (kvs : List (Str × Value)) (vs : List Value) : Prop where
  pv : Paired IsStr vs (ps.map (wd r))
  pk : kvs.map (·.1) = ps.map (wd r)
  nd : ps.Nodup
  one : [0, 1, 2, 3] ∈ ps
  sub : ∀ p ∈ ps, p ∈ P24
  gen : ∀ p ∈ ps, Gen os p
theorem GS.len {r os ps kvs vs} (g : GS r os ps kvs vs) : vs.length = ps.length ∧ kvs.length = ps.length ∧ ps.length ≤ 24 := by
  refine ⟨by rw [g.pv.length, List.length_map], ?_, P24_le g.nd g.sub⟩
  have := congrArg List.length g.pk
  simpa using this
theorem GS.has {r os ps kvs vs} (g : GS r os ps kvs vs) (hr : Four r) {q : List Nat} (hq : q ∈ P24) : (valueAt kvs (wd r q)).isSome = decide (q ∈ ps) := by
  have h1 := PyProof.Rows.valueAt_isSome_eq_any kvs (wd r q)
  rw [h1]
  by_cases h : q ∈ ps
  · rw [decide_eq_true h]
    have := (wd_mem hr g.sub hq).mpr h
    rw [← g.pk] at this
    obtain ⟨kv, hkv, e⟩ := List.mem_map.mp this
    exact List.any_eq_true.mpr ⟨kv, hkv, by simpa using e⟩
  · rw [decide_eq_false h]
    refine List.any_eq_false.mpr fun kv hkv e => h ((wd_mem hr g.sub hq).mp ?_)
    rw [← g.pk]
    have e' : kv.1 = wd r q := by simpa using e
    exact e' ▸ List.mem_map_of_mem (f := (·.1)) hkv
theorem GS.push {r os ps kvs vs} (g : GS r os ps kvs vs) (hr : Four r) {p o : List Nat} (hp : p ∈ ps) (ho : o ∈ os) (ho' : o ∈ P24) (hn : mv p o ∉ ps) (v : Value) (t : Tok) :
    GS r os (ps ++ [mv p o]) (stored kvs (wd r (mv p o)) v) (vs ++ [.str (wd r (mv p o)) t]) := by
  have hq : mv p o ∈ P24 := mv_mem p (g.sub p hp) o ho'
  refine ⟨?_, ?_, ?_, ?_, ?_, ?_⟩
  · rw [List.map_append]; exact g.pv.snoc ⟨_, rfl⟩
  · have : valueAt kvs (wd r (mv p o)) = none := by
      have := g.has hr hq
      rw [decide_eq_false hn] at this
      exact Option.not_isSome_iff_eq_none.mp (by rw [this]; exact Bool.false_ne_true)
    rw [PyProof.Rows.stored_absent this, List.map_append, List.map_append, g.pk]; rfl
  · refine List.nodup_append.mpr ⟨g.nd, by simp, fun x hx y hy e => ?_⟩
    rw [List.mem_singleton.mp hy] at e
    exact hn (e ▸ hx)
  · exact List.mem_append_left _ g.one
  · intro x hx
    rcases List.mem_append.mp hx with hx | hx
    · exact g.sub x hx
    · rw [List.mem_singleton.mp hx]; exact hq
  · intro x hx
    rcases List.mem_append.mp hx with hx | hx
    · exact g.gen x hx
    · rw [List.mem_singleton.mp hx]; exact .step (g.gen p hp) ho

inductive IGroupW (r : Str) (os : List (List Nat)) (t : Tok) (aO aW aD : Addr) (k : Nat) : Vals → Led → Prop where
  | mk (ps : List (List Nat)) (kvs : List (Str × Value)) (vs : List Value) (spot : Nat) (ts : Tok) (ow wv : Option Value) (hk : k = 24 - spot) (hsp : spot ≤ ps.length) (g : GS r os ps kvs vs) (hcl : ∀ i p, i < spot → ps[i]? = some p → ∀ o ∈ os, mv p o ∈ ps) :
    IGroupW r os t aO aW aD k [some (.str r t), some (.ref aO), some (.ref aW), some (.ref aD), some (.int (spot : Nat) ts), ow, wv] [(aD, .dict kvs), (aW, .list vs)]
inductive IGroupF (r : Str) (os : List (List Nat)) (t : Tok) (aO aW aD : Addr) (ps : List (List Nat)) (p : List Nat) (spot : Nat) (ts : Tok) (j : Nat) : Vals → Led → Prop where
  | mk (ps' : List (List Nat)) (kvs' : List (Str × Value)) (vs' : List Value) (ex : List (List Nat)) (ow wv : Option Value) (e1 : ps' = ps ++ ex) (g' : GS r os ps' kvs' vs') (hin : ∀ i o, i < j → os[i]? = some o → mv p o ∈ ps') :
    IGroupF r os t aO aW aD ps p spot ts j [some (.str r t), some (.ref aO), some (.ref aW), some (.ref aD), some (.int (spot : Nat) ts), ow, wv] [(aD, .dict kvs'), (aW, .list vs')]
theorem group_spec (w : World) (r : Str) (t : Tok) (aO : Addr) (orefs : List Value) (os : List (List Nat)) (need : Led) (hO : (aO, .list orefs) ∈ need) (hOs : OrdL need orefs os) (hos : ∀ o ∈ os, o ∈ P24) (hr : Four r) :
    Spec w 2 (.ref 153) [.str r t, .ref aO] need (fun v tl => ∃ a vs ps, v = .ref a ∧ tl = [(a, .list vs)] ∧ Paired IsStr vs (ps.map (wd r)) ∧ IsGroup os ps) := by
  refine enter (binds := [(Str.ofString "rounds", .str r t), (Str.ofString "orders", .ref aO)]) [Str.ofString "rounds", Str.ofString "orders", Str.ofString "words", Str.ofString "held", Str.ofString "spot", Str.ofString "order", Str.ofString "word"]
    [some (.str r t), some (.ref aO), none, none, none, none, none] rfl rfl (by kernel_rfl) rfl
    (by decide) (locs rfl) rfl rfl rfl rfl rfl (by decide +kernel) (.has (by kernel_rfl) (.has (by kernel_rfl) (.no (.no (.no (.no (.no .nil))))))) ?_
  intro A L s G hA hn
  have hO' := hn _ hO
  repeat walk_at "aw"
  refine AW.dict1 G rfl fun aD => ?_
  repeat walk_at "aw"
  rename_i aW t0
  refine ⟨_, _, rfl, rfl, ?_⟩
  repeat walk_at "aw"
  rename_i t1
  refine AW.while_ (k₀ := 24) (IGroupW r os t aO aW aD) ?_ ?_
  · refine ⟨[[0, 1, 2, 3]], _, _, 0, _, _, _, rfl, by simp, ⟨?_, ?_, by simp, by simp, ?_, ?_⟩, ?_⟩
    · exact .cons ⟨t, by rw [wd_one hr]⟩ .nil
    · simp [wd_one hr]
    · intro p hp; rw [List.mem_singleton.mp hp]; exact P24_one
    · intro p hp; rw [List.mem_singleton.mp hp]; exact .one
    · intro i p hi; omega
  · rintro k v n ⟨ps, kvs, vs, spot, ts, ow, wv, rfl, hsp, g, hcl⟩
    obtain ⟨l1, l2, l3⟩ := g.len
    repeat walk_at "aw"
    refine AW.lenL (by walk_at "has") (by omega) fun _ => ?_
    repeat walk_at "aw"
    rw [l1]
    by_cases hlt : spot < ps.length
    · have hb : decide (((spot : Nat) : Int) < ((ps.length : Nat) : Int)) = true := decide_eq_true (by omega)
      refine ifT hb ?_
      obtain ⟨p, hp⟩ : ∃ p, ps[spot]? = some p := ⟨_, List.getElem?_eq_getElem hlt⟩
      have hpm := List.mem_of_getElem? hp
      have hpP := g.sub p hpm
      repeat walk_at "aw"
      walk_at "for"
      repeat walk_at "aw"
      refine ⟨_, _, _, IGroupF r os t aO aW aD ps p spot ts, starts_list, by walk_at "one", ?_, ?_, ?_, ?_⟩
      · exact ⟨ps, kvs, vs, [], _, _, by simp, g, (by intro i o hi; omega)⟩
      · rintro i v₂ n₂ ⟨ps', kvs', vs', ex, ow, wv, e1, g', hin⟩
        walk_at "one"
      · rintro i hPhi0 hPhi v v₂ n₂ hi hv ⟨ps', kvs', vs', ex, ow, wv, e1, g', hin⟩
        obtain ⟨o, ho, a, vo, rfl, hm, hvo⟩ := pgetL hOs _ _ hv
        have hom := List.mem_of_getElem? ho
        have hoP := hos o hom
        obtain ⟨o1, o2⟩ := P24_small o hoP
        have hord := hn _ hm
        have hp' : ps'[spot]? = some p := by rw [e1, List.getElem?_append_left hlt]; exact hp
        have hpm' := List.mem_of_getElem? hp'
        obtain ⟨m1, m2, m3⟩ := g'.len
        obtain ⟨pw, hpw, tw, rfl⟩ := pget g'.pv spot (wd r p) (by rw [List.getElem?_map, hp']; rfl)
        repeat walk_at "aw"
        walk_at "tailL"
        refine AW.getL (by walk_at "has") (by omega) (by omega) (by simpa using hpw) ?_
        repeat walk_at "aw"
        refine AW.callO (moved_spec _ (wd r p) tw a vo o hvo (fun i hi => by rw [wd_size]; have := o2 i hi; have := (P24_small p hpP).1; omega) (by rw [wd_size, (P24_small p hpP).1]; decide) (by omega)) hA G (by walk_at "one") fun tv => ?_
        rw [wd_mv hpP hoP]
        repeat walk_at "aw"
        refine AW.notInD (by walk_at "has") ?_
        rw [g'.has hr (mv_mem p hpP o hoP)]
        repeat walk_at "aw"
        by_cases hin' : mv p o ∈ ps'
        · refine ifND hin' ?_
          repeat walk_at "aw"
          refine ⟨ps', kvs', vs', ex, _, _, e1, g', ?_⟩
          intro k q hk hq
          rcases Nat.lt_or_ge k i with z | z
          · exact hin k q z hq
          · have : k = i := by omega
            subst this
            rw [ho] at hq; cases hq; exact hin'
        · refine ifNE hin' ?_
          repeat walk_at "aw"
          with_reducible refine' AW.assignSub rfl ?_
          repeat walk_at "aw"
          refine AW.lenL (by walk_at "has") (by omega) fun _ => ?_
          repeat walk_at "aw"
          refine AW.setD (by walk_at "mem") (by walk_at "upd") (by rw [sizeLine_eq]; omega) ?_
          repeat walk_at "aw"
          walk_at "m_append"
          repeat walk_at "aw"
          refine ⟨isL (by walk_at "has"), ?_⟩
          repeat walk_at "aw"
          refine AW.append (by walk_at "mem") (by walk_at "upd") (by rw [sizeLine_eq]; omega) ?_
          refine ⟨rfl, ?_⟩
          repeat walk_at "aw"
          refine ⟨ps' ++ [mv p o], _, _, ex ++ [mv p o], _, _, by rw [e1, List.append_assoc], g'.push hr hpm' hom hoP hin' _ _, ?_⟩
          intro k q hk hq
          rcases Nat.lt_or_ge k i with z | z
          · exact List.mem_append_left _ (hin k q z hq)
          · have : k = i := by omega
            subst this
            rw [ho] at hq; cases hq; simp
      · rintro v₂ n₂ ⟨ps', kvs', vs', ex, ow, wv, e1, g', hin⟩
        have hle := hOs.length
        repeat walk_at "aw"
        refine ⟨24 - (spot + 1), by omega, ps', kvs', vs', spot + 1, _, _, _, rfl, ?_, g', ?_⟩
        · rw [e1, List.length_append]; omega
        · intro i q hi hq o ho
          rcases Nat.lt_or_ge i spot with z | z
          · rw [e1] at hq ⊢
            rw [List.getElem?_append_left (by omega)] at hq
            exact List.mem_append_left _ (hcl i q z hq o ho)
          · have : i = spot := by omega
            subst this
            have e : ps'[i]? = some p := by rw [e1, List.getElem?_append_left hlt]; exact hp
            rw [e] at hq; cases hq
            obtain ⟨k, hk, ek⟩ := List.mem_iff_getElem.mp ho
            exact hin k o (by omega) (by rw [List.getElem?_eq_getElem hk, ek])
    · have hb : decide (((spot : Nat) : Int) < ((ps.length : Nat) : Int)) = false := decide_eq_false (by omega)
      refine ifN (by rw [hb]; exact Bool.false_ne_true) ?_
      repeat walk_at "aw"
      refine ⟨[(aW, .list vs)], by walk_at "subl", aW, vs, ps, rfl, rfl, g.pv, g.nd, g.one, g.sub, ?_, g.gen⟩
      intro p hp o ho
      obtain ⟨k, hk, ek⟩ := List.mem_iff_getElem.mp hp
      exact hcl k p (by omega) (by rw [List.getElem?_eq_getElem hk, ek]) o ho

noncomputable def cyc (p : List Nat) : Nat → Nat → List Nat → Nat → List Nat × Nat
  | 0, _, ms, k => (ms, k)
  | f + 1, i, ms, k => if i ∈ ms then (ms, k) else cyc p f (p.getD i 0) (ms ++ [i]) (k + 1)
noncomputable def leadStep (p : List Nat) (st : List Nat × List Nat) (i : Nat) : List Nat × List Nat :=
  ((if 0 < (cyc p (5 - st.2.length) i st.2 0).2 then st.1 ++ (List.replicate (cyc p (5 - st.2.length) i st.2 0).2 32 ++ [9]) else st.1), (cyc p (5 - st.2.length) i st.2 0).1)
noncomputable def leadTo (p : List Nat) (i : Nat) : List Nat × List Nat := (List.range i).foldl (leadStep p) ([], [])
noncomputable def leadL (p : List Nat) : List Nat := (leadTo p 4).1
theorem leadTo_succ (p : List Nat) (i : Nat) : leadTo p (i + 1) = leadStep p (leadTo p i) i := by
  unfold leadTo
  rw [List.range_succ, List.foldl_append]; rfl
theorem leadL_len : ∀ p ∈ P24, (leadL p).length ≤ 8 := by decide +kernel

noncomputable def sg (r : Str) (l : List Nat) : Str := ⟨(l.map fun i => r.cps.getD i 0).toArray⟩
theorem sg_snoc (r : Str) (l : List Nat) (i : Nat) : sg r l ++ chr1 (r.cps.getD i 0) = sg r (l ++ [i]) := by
  show (⟨_⟩ : Str) = ⟨_⟩
  simp [sg, chr1]
theorem sg_mem {r : Str} (hr : Four r) {l : List Nat} (hl : ∀ i ∈ l, i < 4) {i : Nat} (hi : i < 4) : r.cps.getD i 0 ∈ (sg r l).cps.toList ↔ i ∈ l := by
  unfold sg
  simp only [List.mem_map]
  constructor
  · rintro ⟨j, hj, e⟩
    rw [← hr.inj j i (hl j hj) hi e]; exact hj
  · exact fun h => ⟨i, h, rfl⟩
theorem four_get {r : Str} (hr : Four r) {i : Nat} (hi : i < 4) : r.cps[i]? = some (r.cps.getD i 0) := by
  have : i < r.cps.size := by rw [hr.sz]; exact hi
  simp [this]
theorem blank_eq : Str.ofString " " = chr1 32 := by decide +kernel
theorem tab_eq : Str.ofString "\t" = chr1 9 := by decide +kernel
theorem str_app (a b : List Nat) : (⟨a.toArray⟩ : Str) ++ (⟨b.toArray⟩ : Str) = ⟨(a ++ b).toArray⟩ := by
  show (⟨_⟩ : Str) = ⟨_⟩
  simp

theorem str_len_app (x y : Str) : (x ++ y).length = x.length + y.length := Array.size_append
theorem AW.mulStr' {c : Cx} {vals : Vals} {news : Led} {Φ : Value → Vals → Led → Prop} {x : Str} {k n : Nat} {t u : Tok} (hx : x = chr1 k) (h1 : 1 ≤ n) (hn : n ≤ 100) (h : ∀ t, Φ (.str ⟨(List.replicate n k).toArray⟩ t) vals news) : AW c (binaryOp .Mult (.str x t) (.int n u)) vals news Φ := by
  subst hx; exact AW.mulStr h1 hn h

inductive ILead (r : Str) (t u : Tok) (p : List Nat) (i : Nat) : Vals → Led → Prop where
  | mk (x : Str) (y : List Nat) (tl tm : Tok) (a b c : Option Value) (hx : x = ⟨(leadTo p i).1.toArray⟩) (hy : y = (leadTo p i).2) (h1 : (leadTo p i).2.Nodup) (h2 : ∀ j ∈ (leadTo p i).2, j < 4) (h3 : (leadTo p i).1.length ≤ 5 * i) :
    ILead r t u p i [some (.str r t), some (.str (wd r p) u), some (.str x tl), some (.str (sg r y) tm), a, b, c] []
inductive ILeadW (r : Str) (t u : Tok) (p : List Nat) (i : Nat) (tl : Tok) (k : Nat) : Vals → Led → Prop where
  | mk (ms : List Nat) (at_ sz : Nat) (t1 t2 t3 : Tok) (z : Option Value) (hk : k = 4 - ms.length) (m1 : ms.Nodup) (m2 : ∀ j ∈ ms, j < 4) (m3 : at_ < 4) (m4 : sz ≤ ms.length) (m5 : cyc p (5 - ms.length) at_ ms sz = cyc p (5 - (leadTo p i).2.length) i (leadTo p i).2 0) :
    ILeadW r t u p i tl k [some (.str r t), some (.str (wd r p) u), some (.str ⟨(leadTo p i).1.toArray⟩ tl), some (.str (sg r ms) t1), z, some (.int (sz : Nat) t2), some (.str (chr1 (r.cps.getD at_ 0)) t3)] []
theorem lead_spec (w : World) (r : Str) (t u : Tok) (p : List Nat) (hr : Four r) (hp : p ∈ P24) : Spec w 1 (.ref 160) [.str r t, .str (wd r p) u] [] (OneR fun t => .str ⟨(leadL p).toArray⟩ t) := by
  obtain ⟨hp4, hpl⟩ := P24_small p hp
  have hpd : ∀ i, i < 4 → p.getD i 0 < 4 := fun i hi => by
    have : p.getD i 0 = p[i]'(by omega) := by simp [List.getD, hp4, hi]
    rw [this]; exact hpl _ (List.getElem_mem _)
  refine enter (binds := [(Str.ofString "rounds", .str r t), (Str.ofString "word", .str (wd r p) u)]) [Str.ofString "rounds", Str.ofString "word", Str.ofString "lead", Str.ofString "met", Str.ofString "sign", Str.ofString "size", Str.ofString "at"]
    [some (.str r t), some (.str (wd r p) u), none, none, none, none, none] rfl rfl (by kernel_rfl) rfl
    (by decide) (locs rfl) rfl rfl rfl rfl rfl (by decide +kernel) (.has (by kernel_rfl) (.has (by kernel_rfl) (.no (.no (.no (.no (.no .nil))))))) ?_
  intro A L s G hA hn
  repeat walk_at "aw"
  walk_at "for"
  repeat walk_at "aw"
  refine ⟨[], _, _, ILead r t u p, starts_str, ?_, ?_, ?_, ?_, ?_⟩
  · intro p hp; cases hp
  · exact ⟨_, _, _, _, _, _, _, rfl, rfl, .nil, (by intro j hj; cases hj), Nat.le_refl _⟩
  · intro i v₂ n₂ _ p hp; cases hp
  · rintro i hPhi0 hPhi v v₂ n₂ hi ⟨c, uc, hc, rfl⟩ ⟨_, _, tl, tm, a, b, d, rfl, rfl, hnd, hlt, hln⟩
    have hi4 : i < 4 := by rw [← hr.sz]; exact hi
    have ec : c = r.cps.getD i 0 := by rw [four_get hr hi4] at hc; exact (Option.some.inj hc).symm
    subst ec
    repeat walk_at "aw"
    refine AW.while_ (k₀ := 4 - (leadTo p i).2.length) (ILeadW r t u p i tl) ?_ ?_
    · exact ⟨_, i, 0, _, _, _, _, rfl, hnd, hlt, hi4, Nat.zero_le _, rfl⟩
    · rintro k v n ⟨ms, at_, sz, t1, t2, t3, z, rfl, m1, m2, m3, m4, m5⟩
      have mlen : ms.length ≤ 4 := by
        have := nodup_le ms (List.range 4) m1 fun x hx => List.mem_range.mpr (m2 x hx)
        simpa using this
      repeat walk_at "aw"
      refine AW.notInS ?_
      repeat walk_at "aw"
      by_cases hin : at_ ∈ ms
      · refine ifND ((sg_mem hr m2 m3).mpr hin) ?_
        have e : cyc p (5 - (leadTo p i).2.length) i (leadTo p i).2 0 = (ms, sz) := by
          rw [← m5]
          obtain ⟨f, hf⟩ : ∃ f, 5 - ms.length = f + 1 := ⟨4 - ms.length, by omega⟩
          rw [hf]; unfold cyc; rw [if_pos hin]
        have e1 : (leadTo p (i + 1)).2 = ms := by rw [leadTo_succ]; unfold leadStep; rw [e]
        have e2 : (leadTo p (i + 1)).1 = if 0 < sz then (leadTo p i).1 ++ (List.replicate sz 32 ++ [9]) else (leadTo p i).1 := by rw [leadTo_succ]; unfold leadStep; rw [e]
        repeat walk_at "aw"
        by_cases hz : 0 < sz
        · rw [if_pos hz] at e2
          have hb : decide ((0 : Int) < (sz : Int)) = true := decide_eq_true (by omega)
          refine ifT hb ?_
          repeat walk_at "aw"
          refine AW.mulStr' blank_eq hz (by omega) fun _ => ?_
          repeat walk_at "aw"
          refine AW.addS ?_ fun _ => ?_
          · rw [sizeLine_eq, tab_eq]; simp [Str.length, chr1]; omega
          refine AW.iaddS ?_ fun _ => ?_
          · rw [sizeLine_eq, str_len_app, tab_eq]; simp [Str.length, chr1]; omega
          repeat walk_at "aw"
          have e3 : (⟨(leadTo p i).1.toArray⟩ : Str) ++ ((⟨(List.replicate sz 32).toArray⟩ : Str) ++ Str.ofString "\t") = ⟨((leadTo p i).1 ++ (List.replicate sz 32 ++ [9])).toArray⟩ := by
            rw [tab_eq, show chr1 9 = ⟨[9].toArray⟩ from rfl, str_app, str_app]
          refine ⟨_, _, _, _, _, _, _, by rw [e2, e3], e1.symm, by rw [e1]; exact m1, by rw [e1]; exact m2, ?_⟩
          rw [e2]; simp; omega
        · rw [if_neg hz] at e2
          have hb : decide ((0 : Int) < (sz : Int)) = false := decide_eq_false (by omega)
          refine ifN (by rw [hb]; exact Bool.false_ne_true) ?_
          repeat walk_at "aw"
          exact ⟨_, _, _, _, _, _, _, by rw [e2], e1.symm, by rw [e1]; exact m1, by rw [e1]; exact m2, by rw [e2]; omega⟩
      · refine ifNE (fun q => hin ((sg_mem hr m2 m3).mp q)) ?_
        have hlen5 : ms.length < 4 := by
          have := nodup_le (at_ :: ms) (List.range 4) (List.nodup_cons.mpr ⟨hin, m1⟩) fun x hx => List.mem_range.mpr (by
            rcases List.mem_cons.mp hx with rfl | hx
            · exact m3
            · exact m2 x hx)
          have h4 : ms.length + 1 ≤ 4 := by simpa using this
          omega
        repeat walk_at "aw"
        refine AW.iaddS ?_ fun _ => ?_
        · rw [sizeLine_eq]; simp [Str.length, chr1, sg]; omega
        repeat walk_at "aw"
        walk_at "m_index"
        repeat walk_at "aw"
        refine ⟨isS, ?_⟩
        repeat walk_at "aw"
        refine AW.indexS (four_get hr m3) (fun j hj q => ?_) fun _ => ?_
        · rw [four_get hr (by omega)] at q
          have := hr.inj j at_ (by omega) m3 (Option.some.inj q)
          omega
        walk_at "tailS"
        refine AW.getS (k := r.cps.getD (p.getD at_ 0) 0) (by omega) (by omega) ?_ fun _ => ?_
        · have h1 := wd_get (r := r) (p := p) (i := at_) (by omega)
          have h2 : at_ < (wd r p).cps.size := by rw [wd_size]; omega
          rw [show ((at_ : Int)).toNat = at_ from rfl, Array.getElem?_eq_getElem h2]
          rw [← h1]; simp [h2]
        repeat walk_at "aw"
        rw [sg_snoc]
        refine ⟨4 - (ms.length + 1), by omega, ms ++ [at_], p.getD at_ 0, sz + 1, _, _, _, _, by simp, ?_, ?_, hpd _ m3, by simp; omega, ?_⟩
        · exact List.nodup_append.mpr ⟨m1, by simp, fun x hx y hy e => hin (by rw [List.mem_singleton.mp hy] at e; exact e ▸ hx)⟩
        · intro j hj
          rcases List.mem_append.mp hj with hj | hj
          · exact m2 j hj
          · rw [List.mem_singleton.mp hj]; exact m3
        · rw [← m5]
          obtain ⟨f, hf⟩ : ∃ f, 5 - ms.length = f + 1 := ⟨4 - ms.length, by omega⟩
          rw [hf]
          conv => rhs; unfold cyc
          rw [if_neg hin]
          rw [List.length_append, List.length_singleton, show 5 - (ms.length + 1) = f by omega]
  · rintro v₂ n₂ ⟨_, _, tl, tm, a, b, c, rfl, rfl, hnd, hlt, hln⟩
    repeat walk_at "aw"
    rw [hr.sz]
    exact oneR ⟨_, rfl⟩

noncomputable def bump (count : List Nat) (b : Nat) : List Nat :=
  (if count.length ≤ b then count ++ List.replicate (b - count.length + 1) 0 else count).set b ((if count.length ≤ b then count ++ List.replicate (b - count.length + 1) 0 else count).getD b 0 + 1)
structure WSt where
  count : List Nat
  b : Nat
  n : Nat
  nt : Nat
noncomputable def wsStep (st : WSt) (ch : Nat) : WSt := if ch = 32 then ⟨st.count, st.b + 1, st.n + 1, st.nt⟩ else ⟨bump st.count st.b, 0, st.n + 1, st.nt + 1⟩
noncomputable def wsRun (l : List Nat) : WSt := l.foldl wsStep ⟨[], 0, 0, 0⟩
theorem wsRun_snoc (l : List Nat) (c : Nat) : wsRun (l ++ [c]) = wsStep (wsRun l) c := by simp [wsRun]
theorem wsRun_small (l : List Nat) : ((wsRun l).count.length ≤ l.length + 1 ∧ (wsRun l).b ≤ l.length) := by
  have key : ∀ (l : List Nat) (st : WSt) (k : Nat), st.count.length ≤ k + 1 → st.b ≤ k → (l.foldl wsStep st).count.length ≤ k + l.length + 1 ∧ (l.foldl wsStep st).b ≤ k + l.length := by
    intro l
    induction l with
    | nil => intro st k h1 h2; exact ⟨h1, h2⟩
    | cons c r ih =>
      intro st k h1 h2
      have := ih (wsStep st c) (k + 1) (by
        unfold wsStep; split
        · simp; omega
        · simp only [bump]; split <;> simp <;> omega) (by
        unfold wsStep; split
        · simp; omega
        · simp)
      rw [List.foldl_cons, List.length_cons]
      omega
  have := key l ⟨[], 0, 0, 0⟩ 0 (by simp) (by simp)
  unfold wsRun
  omega
theorem chr_blank (c : Nat) : ((⟨#[c]⟩ : Str) == Str.ofString " ") = decide (c = 32) := by
  rw [blank_eq]
  by_cases h : c = 32
  · subst h; simp [chr1]
  · rw [decide_eq_false h]
    refine beq_eq_false_iff_ne.mpr fun e => h ?_
    have : (#[c] : Array Nat) = #[32] := congrArg Str.cps e
    simpa using this
theorem chr_tab (c : Nat) : ((⟨#[c]⟩ : Str) == Str.ofString "\t") = decide (c = 9) := by
  rw [tab_eq]
  by_cases h : c = 9
  · subst h; simp [chr1]
  · rw [decide_eq_false h]
    refine beq_eq_false_iff_ne.mpr fun e => h ?_
    have : (#[c] : Array Nat) = #[9] := congrArg Str.cps e
    simpa using this
theorem ws_S (P : Params) : findCls (KF P) (.ref 83) (.type "type") (Str.ofString "S") = some (.val (.str (Str.ofString " ") 209)) := by kernel_rfl
theorem ws_T (P : Params) : findCls (KF P) (.ref 83) (.type "type") (Str.ofString "T") = some (.val (.str (Str.ofString "\t") 210)) := by kernel_rfl
theorem ws_reads (P : Params) : readsIn (KF P) 83 (.type "type") = true := by kernel_rfl
theorem ws_hs (P : Params) : findIn (KF P) (.ref 83) "__setattr__" = some (some (.builtin "object.__setattr__")) := by kernel_rfl
theorem ws_hp (P : Params) : plainOver (KF P) 83 = true := by kernel_rfl
theorem ws_hd (P : Params) : hasDictIn (KF P) 83 = true := by kernel_rfl
theorem ws_raw (P : Params) : ClsOK P 83 (Str.ofString "raw") := ⟨by kernel_rfl, by kernel_rfl, by kernel_rfl⟩
theorem ws_norm (P : Params) : ClsOK P 83 (Str.ofString "norm") := ⟨by kernel_rfl, by kernel_rfl, by kernel_rfl⟩
theorem ws_nt (P : Params) : ClsOK P 83 (Str.ofString "nt") := ⟨by kernel_rfl, by kernel_rfl, by kernel_rfl⟩
theorem ws_t1 (P : Params) : takerIn (KF P) 83 (Str.ofString "raw") = some none := by kernel_rfl
theorem ws_t2 (P : Params) : takerIn (KF P) 83 (Str.ofString "n") = some none := by kernel_rfl
theorem ws_t3 (P : Params) : takerIn (KF P) 83 (Str.ofString "nt") = some none := by kernel_rfl
theorem ws_t4 (P : Params) : takerIn (KF P) 83 (Str.ofString "norm") = some none := by kernel_rfl
theorem ws_t5 (P : Params) : takerIn (KF P) 83 (Str.ofString "is_simple") = some none := by kernel_rfl
theorem ws_makes (P : Params) : makesIn (KF P) 83 = true := by kernel_rfl
theorem ws_init (P : Params) : findIn (KF P) (.ref 83) "__init__" = some (some (.ref 38)) := by kernel_rfl
theorem ws_fn (P : Params) : isFn (KF P) (.ref 38) = true := by kernel_rfl

/-- the attributes that an object of the class holds -/
noncomputable def wsAtt (aN : Addr) (nt : Nat) (v1 v2 v5 : Value) (t1 t2 t3 t3' t4 t5 : Tok) : List (Str × Tok × Value) :=
  [(Str.ofString "raw", t1, v1), (Str.ofString "n", t2, v2), (Str.ofString "nt", t3, .int nt t3'), (Str.ofString "norm", t4, .ref aN), (Str.ofString "is_simple", t5, v5)]
/-- an object of the class, with what it holds -/
noncomputable def WSat (P : Params) (x : Addr) (st : WSt) (tl : Led) : Prop := ∃ dx aN aT cv v1 v2 v5 t1 t2 t3 t3' t4 t5 tb, Paired IsN cv st.count ∧
  tl = [(aN, .tup [.ref aT, .int st.b tb]), (aT, .tup cv), (x, .raw (instObj 83 dx)), (dx, .raw (dictOf (att P (wsAtt aN st.nt v1 v2 v5 t1 t2 t3 t3' t4 t5)) 5))]

theorem pset {vs : List Value} {ns : List Nat} (h : Paired IsN vs ns) : ∀ (i n : Nat) (t : Tok), Paired IsN (vs.set i (.int n t)) (ns.set i n) := by
  induction h with
  | nil => intro i n t; exact .nil
  | cons h r ih =>
    intro i n t
    cases i with
    | zero => exact .cons ⟨t, rfl⟩ r
    | succ i => exact .cons h (ih i n t)
theorem papp {α β : Type} {F : α → β → Prop} {a b : List α} {c d : List β} (h : Paired F a c) (k : Paired F b d) : Paired F (a ++ b) (c ++ d) := by
  induction h with
  | nil => exact k
  | cons h _ ih => exact .cons h ih
theorem prep (t : Tok) : ∀ n : Nat, Paired IsN (List.replicate n (.int ((0 : Nat) : Int) t)) (List.replicate n 0)
  | 0 => .nil
  | n + 1 => .cons ⟨t, rfl⟩ (prep t n)

inductive IWs (l : List Nat) (S : Str) (t : Tok) (x dx : Addr) (dd : MO) (i : Nat) : Vals → Led → Prop where
  | mk (hil : i ≤ l.length) (st : WSt) (hst : wsRun (l.take i) = st) (aC : Addr) (cv : List Value) (tb tn tt : Tok) (ch : Option Value) (z : Addr × MO) (hcv : Paired IsN cv st.count) :
    IWs l S t x dx dd i [some (.ref x), some (.str S t), some (.str (Str.ofString " ") 209), some (.str (Str.ofString "\t") 210), some (.ref aC), some (.int st.b tb), some (.int st.n tn), some (.int st.nt tt), ch]
      [(aC, .list cv), z, (x, .raw (instObj 83 dx)), (dx, dd)]
theorem ws_spec (w : World) (l m : List Nat) (t : Tok) (hl : ∀ c ∈ l, c = 32 ∨ c = 9) (hm : ∀ c, m[0]? = some c → c ≠ 32 ∧ c ≠ 9) (hll : l.length ≤ 100) :
    Spec w 2 (.ref 83) [.str ⟨(l ++ m).toArray⟩ t] [] (fun v tl => ∃ x, v = .ref x ∧ WSat w.params x (wsRun l) tl) := by
  have hsm := wsRun_small l
  refine enterI (binds := fun x => [(Str.ofString "self", .ref x), (Str.ofString "ws", .str ⟨(l ++ m).toArray⟩ t)]) [Str.ofString "self", Str.ofString "ws", Str.ofString "S", Str.ofString "T", Str.ofString "count", Str.ofString "b", Str.ofString "n", Str.ofString "nt", Str.ofString "ch"]
    (fun x => [some (.ref x), some (.str ⟨(l ++ m).toArray⟩ t), none, none, none, none, none, none, none]) (ws_makes _) (ws_init _) (ws_fn _) rfl rfl (by kernel_rfl) (fun _ => rfl)
    (by decide) (fun _ => locs rfl) rfl rfl rfl rfl rfl (by decide +kernel) (fun x => .has (by kernel_rfl) (.has (by kernel_rfl) (.no (.no (.no (.no (.no (.no (.no .nil))))))))) ?_
  intro A L x dx s G hA
  walk_at "hide"
  have Kget := ws_raw w.params
  repeat walk_at "aw"
  with_reducible refine' AW.assignA rfl ?_
  repeat walk_at "aw"
  refine AW.setAttr (news' := fun t1 => [(x, .raw (instObj 83 dx)), (dx, .raw (dictOf (att w.params [(Str.ofString "raw", t1, .str ⟨(l ++ m).toArray⟩ t)]) 1))]) G (by walk_at "has") (by walk_at "mem") (ws_hs _) (ws_hp _) (ws_t1 _) (ws_hd _) rfl (by decide) (fun _ => .there .here) fun t1 => ?_
  repeat walk_at "aw"
  with_reducible refine' AW.assignSw G rfl rfl ?_
  repeat walk_at "aw"
  with_reducible refine' AW.attrE ?k1 ?_
  case k1 => with_unfolding_all rfl
  repeat walk_at "aw"
  refine AW.clsVal G (ws_reads _) (ws_S _) rfl ?_
  repeat walk_at "aw"
  with_reducible refine' AW.attrE ?k1 ?_
  case k1 => with_unfolding_all rfl
  repeat walk_at "aw"
  refine AW.clsVal G (ws_reads _) (ws_T _) rfl ?_
  repeat walk_at "aw"
  refine ⟨_, _, _, rfl, by walk_at "has", ?_⟩
  repeat walk_at "aw"
  with_reducible refine' AW.assign3 rfl rfl ?_
  repeat walk_at "aw"
  rename_i aC t0
  refine AW.mono (Φ := fun f v n => f = .next ∧ IWs l ⟨(l ++ m).toArray⟩ t x dx (.raw (dictOf (att w.params [(Str.ofString "raw", t1, .str ⟨(l ++ m).toArray⟩ t)]) 1)) l.length v n) ?_ ?_
  · walk_at "for"
    with_reducible refine' AW.attrE ?k1 ?_
    case k1 => with_unfolding_all rfl
    repeat walk_at "aw"
    refine AW.instGet G (by walk_at "has") (by walk_at "has") Kget rfl rfl ?_
    refine ⟨[], _, _, IWs l ⟨(l ++ m).toArray⟩ t x dx (.raw (dictOf (att w.params [(Str.ofString "raw", t1, .str ⟨(l ++ m).toArray⟩ t)]) 1)), starts_str, ?_, ?_, ?_, ?_, ?_⟩
    · intro p hp; cases hp
    · exact ⟨Nat.zero_le _, _, rfl, _, _, _, _, _, _, _, .nil⟩
    · intro i v₂ n₂ _ p hp; cases hp
    · rintro i hPhi0 hPhi v v₂ n₂ hi ⟨ch, uc, hc, rfl⟩ ⟨hil, _, rfl, aC, cv, tb, tn, tt, cz, z, hcv⟩
      have hcl := hcv.length
      have hc' : (l ++ m)[i]? = some ch := by simpa using hc
      have hsmi := wsRun_small (l.take i)
      rw [List.length_take] at hsmi
      repeat walk_at "aw"
      rcases Nat.lt_or_ge i l.length with hlt | hge
      · have hcl2 : l[i]? = some ch := by rw [List.getElem?_append_left hlt] at hc'; exact hc'
        have e : l.take (i + 1) = l.take i ++ [ch] := by rw [List.take_add_one, hcl2]; rfl
        rcases hl ch (List.mem_of_getElem? hcl2) with rfl | rfl
        · refine ifT (by rw [chr_blank]; rfl) ?_
          repeat walk_at "aw"
          exact ⟨hlt, wsStep (wsRun (l.take i)) 32, by rw [e, wsRun_snoc], aC, cv, _, _, _, _, _, hcv⟩
        · refine ifN (by rw [chr_blank]; decide) ?_
          repeat walk_at "aw"
          refine ifT (by rw [chr_tab]; rfl) ?_
          refine AW.weak ?_
          repeat walk_at "aw"
          have hb0 : (wsRun (l.take i)).b < (if (wsRun (l.take i)).count.length ≤ (wsRun (l.take i)).b then (wsRun (l.take i)).count ++ List.replicate ((wsRun (l.take i)).b - (wsRun (l.take i)).count.length + 1) 0 else (wsRun (l.take i)).count).length := by
            split
            · simp; omega
            · omega
          refine AW.lenL (by walk_at "has") (by omega) fun _ => ?_
          repeat walk_at "aw"
          by_cases hb : (wsRun (l.take i)).count.length ≤ (wsRun (l.take i)).b
          · rw [if_pos hb] at hb0
            refine ifD (by omega) ?_
            repeat walk_at "aw"
            refine AW.lenL (by walk_at "has") (by omega) fun _ => ?_
            repeat walk_at "aw"
            refine AW.mulL G (by walk_at "has") (by omega) (by omega) fun _ => ?_
            repeat walk_at "aw"
            refine AW.addL G (by walk_at "has") (by walk_at "has") (by rw [sizeLine_eq, List.length_replicate]; omega) fun _ => ?_
            repeat walk_at "aw"
            have hN : (((wsRun (l.take i)).b : Int) - (cv.length : Int) + 1).toNat = (wsRun (l.take i)).b - (wsRun (l.take i)).count.length + 1 := by omega
            have hpad : ∀ tok, Paired IsN (cv ++ List.replicate (((wsRun (l.take i)).b : Int) - (cv.length : Int) + 1).toNat (Value.int 0 tok)) ((wsRun (l.take i)).count ++ List.replicate ((wsRun (l.take i)).b - (wsRun (l.take i)).count.length + 1) 0) := fun tok => by
              rw [hN]; exact papp hcv (prep tok _)
            obtain ⟨k, hk⟩ : ∃ k, ((wsRun (l.take i)).count ++ List.replicate ((wsRun (l.take i)).b - (wsRun (l.take i)).count.length + 1) 0)[(wsRun (l.take i)).b]? = some k := ⟨_, List.getElem?_eq_getElem hb0⟩
            have hy : ∀ tok, ∃ ty, (cv ++ List.replicate (((wsRun (l.take i)).b : Int) - (cv.length : Int) + 1).toNat (Value.int 0 tok))[(wsRun (l.take i)).b]? = some (Value.int k ty) := fun tok => by
              obtain ⟨y, hy, ty, rfl⟩ := pget (hpad tok) _ _ hk
              exact ⟨ty, hy⟩
            have hlen9 : ∀ tok, (cv ++ List.replicate (((wsRun (l.take i)).b : Int) - (cv.length : Int) + 1).toNat (Value.int 0 tok)).length = (wsRun (l.take i)).b + 1 := fun tok => by
              rw [List.length_append, List.length_replicate, hN]; omega
            with_reducible refine' AW.assignSub rfl ?_
            repeat walk_at "aw"
            walk_at "tailL"
            refine AW.getL (by walk_at "has") (by omega) (by omega) (hy _).choose_spec ?_
            repeat walk_at "aw"
            refine AW.setL (by walk_at "mem") (by walk_at "upd") (by omega) (by rw [hlen9]; omega) (by rw [sizeLine_eq, hlen9]; omega) ?_
            repeat walk_at "aw"
            refine ⟨[(_, _), z, (x, .raw (instObj 83 dx)), (dx, .raw (dictOf (att w.params [(Str.ofString "raw", t1, .str ⟨(l ++ m).toArray⟩ t)]) 1))], by walk_at "subl", ?_⟩
            repeat walk_at "aw"
            have e5 : bump (wsRun (l.take i)).count (wsRun (l.take i)).b = ((wsRun (l.take i)).count ++ List.replicate ((wsRun (l.take i)).b - (wsRun (l.take i)).count.length + 1) 0).set (wsRun (l.take i)).b (k + 1) := by
              unfold bump
              rw [if_pos hb, List.getD_eq_getElem?_getD, hk]; rfl
            have e6 : wsStep (wsRun (l.take i)) 9 = ⟨((wsRun (l.take i)).count ++ List.replicate ((wsRun (l.take i)).b - (wsRun (l.take i)).count.length + 1) 0).set (wsRun (l.take i)).b (k + 1), 0, (wsRun (l.take i)).n + 1, (wsRun (l.take i)).nt + 1⟩ := by
              unfold wsStep; rw [if_neg (by decide), e5]
            exact ⟨hlt, ⟨_, 0, (wsRun (l.take i)).n + 1, (wsRun (l.take i)).nt + 1⟩, by rw [e, wsRun_snoc, e6]; rfl, _, _, _, _, _, _, _, pset (hpad _) _ (k + 1) _⟩
          · rw [if_neg hb] at hb0
            refine ifE (by omega) ?_
            obtain ⟨k, hk⟩ : ∃ k, (wsRun (l.take i)).count[(wsRun (l.take i)).b]? = some k := ⟨_, List.getElem?_eq_getElem hb0⟩
            obtain ⟨y, hy, ty, rfl⟩ := pget hcv _ _ hk
            repeat walk_at "aw"
            with_reducible refine' AW.assignSub rfl ?_
            repeat walk_at "aw"
            walk_at "tailL"
            refine AW.getL (by walk_at "has") (by omega) (by omega) hy ?_
            repeat walk_at "aw"
            refine AW.setL (by walk_at "mem") (by walk_at "upd") (by omega) (by omega) (by rw [sizeLine_eq]; omega) ?_
            repeat walk_at "aw"
            refine ⟨_, List.Sublist.refl _, ?_⟩
            repeat walk_at "aw"
            have e5 : bump (wsRun (l.take i)).count (wsRun (l.take i)).b = (wsRun (l.take i)).count.set (wsRun (l.take i)).b (k + 1) := by
              unfold bump
              rw [if_neg hb, List.getD_eq_getElem?_getD, hk]; rfl
            have e6 : wsStep (wsRun (l.take i)) 9 = ⟨(wsRun (l.take i)).count.set (wsRun (l.take i)).b (k + 1), 0, (wsRun (l.take i)).n + 1, (wsRun (l.take i)).nt + 1⟩ := by
              unfold wsStep; rw [if_neg (by decide), e5]
            exact ⟨hlt, ⟨_, 0, (wsRun (l.take i)).n + 1, (wsRun (l.take i)).nt + 1⟩, by rw [e, wsRun_snoc, e6]; rfl, aC, _, _, _, _, _, _, pset hcv _ (k + 1) _⟩
      · have hx : i = l.length := by omega
        subst hx
        rw [List.getElem?_append_right (Nat.le_refl _), Nat.sub_self] at hc'
        obtain ⟨n1, n2⟩ := hm ch hc'
        refine ifN (by rw [chr_blank, decide_eq_false n1]; exact Bool.false_ne_true) ?_
        repeat walk_at "aw"
        refine ifN (by rw [chr_tab, decide_eq_false n2]; exact Bool.false_ne_true) ?_
        repeat walk_at "aw"
        exact ⟨rfl, Nat.le_refl _, _, rfl, aC, cv, _, _, _, _, _, hcv⟩
    · rintro v₂ n₂ ⟨hil, st, hst, aC, cv, tb, tn, tt, ch, z, hcv⟩
      exact ⟨rfl, Nat.le_refl _, st, by rw [← hst, List.take_length]; exact congrArg wsRun (List.take_of_length_le (by simp)).symm, aC, cv, tb, tn, tt, ch, z, hcv⟩
  · rintro _ v n ⟨rfl, hil, st, hst, aC, cv, tb, tn, tt, ch, z, hcv⟩
    rw [List.take_length] at hst
    subst hst
    repeat walk_at "aw"
    with_reducible refine' AW.assignA rfl ?_
    repeat walk_at "aw"
    refine AW.setAttr (news' := fun t2 => [(aC, .list cv), z, (x, .raw (instObj 83 dx)), (dx, .raw (dictOf (att w.params [(Str.ofString "raw", t1, .str ⟨(l ++ m).toArray⟩ t), (Str.ofString "n", t2, .int (wsRun l).n tn)]) 2))]) G (by walk_at "has") (by walk_at "mem") (ws_hs _) (ws_hp _) (ws_t2 _) (ws_hd _) (by kernel_rfl) (Nat.le_of_ble_eq_true rfl) (fun _ => .there (.there (.there .here))) fun t2 => ?_
    repeat walk_at "aw"
    with_reducible refine' AW.assignA rfl ?_
    repeat walk_at "aw"
    refine AW.setAttr (news' := fun t3 => [(aC, .list cv), z, (x, .raw (instObj 83 dx)), (dx, .raw (dictOf (att w.params [(Str.ofString "raw", t1, .str ⟨(l ++ m).toArray⟩ t), (Str.ofString "n", t2, .int (wsRun l).n tn), (Str.ofString "nt", t3, .int (wsRun l).nt tt)]) 3))]) G (by walk_at "has") (by walk_at "mem") (ws_hs _) (ws_hp _) (ws_t3 _) (ws_hd _) (by kernel_rfl) (Nat.le_of_ble_eq_true rfl) (fun _ => .there (.there (.there .here))) fun t3 => ?_
    repeat walk_at "aw"
    with_reducible refine' AW.assignA rfl ?_
    repeat walk_at "aw"
    refine AW.tupleL G (by walk_at "has") (by have := hcv.length; rw [sizeLine_eq]; omega) fun aT => ?_
    repeat walk_at "aw"
    rename_i aN
    refine AW.setAttr (news' := fun t4 => [(aN, .tup [.ref aT, .int (wsRun l).b tb]), (aT, .tup cv), (aC, .list cv), z, (x, .raw (instObj 83 dx)), (dx, .raw (dictOf (att w.params [(Str.ofString "raw", t1, .str ⟨(l ++ m).toArray⟩ t), (Str.ofString "n", t2, .int (wsRun l).n tn), (Str.ofString "nt", t3, .int (wsRun l).nt tt), (Str.ofString "norm", t4, .ref aN)]) 4))]) G (by walk_at "has") (by walk_at "mem") (ws_hs _) (ws_hp _) (ws_t4 _) (ws_hd _) (by kernel_rfl) (Nat.le_of_ble_eq_true rfl) (fun _ => .there (.there (.there (.there (.there .here))))) fun t4 => ?_
    repeat walk_at "aw"
    with_reducible refine' AW.assignA rfl ?_
    repeat walk_at "aw"
    refine AW.lenL (by walk_at "has") (by have := hcv.length; omega) fun _ => ?_
    repeat walk_at "aw"
    refine AW.leI ?_
    repeat walk_at "aw"
    refine AW.setAttr (news' := fun t5 => [(aN, .tup [.ref aT, .int (wsRun l).b tb]), (aT, .tup cv), (aC, .list cv), z, (x, .raw (instObj 83 dx)), (dx, .raw (dictOf (att w.params (wsAtt aN (wsRun l).nt (.str ⟨(l ++ m).toArray⟩ t) (.int (wsRun l).n tn) (.bool (decide ((cv.length : Int) ≤ 1))) t1 t2 t3 tt t4 t5)) 5))]) G (by walk_at "has") (by walk_at "mem") (ws_hs _) (ws_hp _) (ws_t5 _) (ws_hd _) (by kernel_rfl) (Nat.le_of_ble_eq_true rfl) (fun _ => .there (.there (.there (.there (.there .here))))) fun t5 => ?_
    repeat walk_at "aw"
    exact ⟨rfl, [(aN, .tup [.ref aT, .int (wsRun l).b tb]), (aT, .tup cv), (x, .raw (instObj 83 dx)), (dx, .raw (dictOf (att w.params (wsAtt aN (wsRun l).nt (.str ⟨(l ++ m).toArray⟩ t) (.int (wsRun l).n tn) (.bool (decide ((cv.length : Int) ≤ 1))) t1 t2 t3 tt t4 t5)) 5))],
      by walk_at "subl", x, rfl, dx, aN, aT, cv, _, _, _, _, _, _, _, _, _, _, hcv, rfl⟩

open PySem.SeqAt

theorem pints {vs ws : List Value} {ns ms : List Nat} (h : Paired IsN vs ns) (k : Paired IsN ws ms) (e : vs = ws) : ns = ms := by
  subst e
  induction h generalizing ms with
  | nil => cases k; rfl
  | cons h _ ih =>
    cases k with
    | cons h' k' =>
      obtain ⟨t, h⟩ := h
      obtain ⟨t', h'⟩ := h'
      rw [h] at h'
      injection h' with e1 e2
      rw [ih k', show _ = _ from Int.ofNat.inj e1]
theorem all_eq : ∀ (ns ms : List Nat), ((List.range (min ns.length ms.length)).all (fun j => decide (ns.getD j 0 = ms.getD j 0)) && (ns.length == ms.length)) = decide (ns = ms) := by
  intro ns ms
  by_cases h : ns = ms
  · subst h
    rw [decide_eq_true rfl]
    simp
  · rw [decide_eq_false h]
    refine Bool.eq_false_iff.mpr fun q => h ?_
    rw [Bool.and_eq_true] at q
    have hl : ns.length = ms.length := by simpa using q.2
    refine List.ext_getElem hl fun j h1 h2 => ?_
    have := List.all_eq_true.mp q.1 j (List.mem_range.mpr (by omega))
    have := of_decide_eq_true this
    simpa [List.getD, h1, h2] using this
theorem eqT {A : Around} {s : Shared} {l b : Addr} {vs ws : List Value} {ns ms : List Nat} (hl : s.heap.IsTuple l vs.toArray) (hb : s.heap.IsTuple b ws.toArray) (hp : Paired IsN vs ns) (hq : Paired IsN ws ms) (hu : A.units < cLine) : EqAt A s (.ref l) (.ref b) (decide (ns = ms)) := by
  by_cases hne : l = b
  · subst hne
    obtain ⟨o, ho, _, n, hd⟩ := hl
    obtain ⟨o', ho', _, n', hd'⟩ := hb
    have : o = o' := Option.some.inj (ho.symm.trans ho')
    subst this
    rw [hd] at hd'
    injection hd' with e1 _
    have e2 : vs = ws := by simpa using e1
    rw [decide_eq_true (pints hp hq e2)]
    exact EqAt.same _
  · have := RcAt.tuples (e := fun j => decide (ns.getD j 0 = ms.getD j 0)) hl hb hu (fun j h1 h2 => by
      have h1' : j < vs.length := by simpa using h1
      have h2' : j < ws.length := by simpa using h2
      obtain ⟨n, hn, tn, e1⟩ := pgetL hp j vs[j] (List.getElem?_eq_getElem h1')
      obtain ⟨m, hm, tm, e2⟩ := pgetL hq j ws[j] (List.getElem?_eq_getElem h2')
      have e3 : vs.toArray[j] = .int n tn := by simpa using e1
      have e4 : ws.toArray[j] = .int m tm := by simpa using e2
      rw [e3, e4]
      have e5 : decide (ns.getD j 0 = ms.getD j 0) = ((n : Int) == (m : Int)) := by
        rw [List.getD_eq_getElem?_getD, List.getD_eq_getElem?_getD, hn, hm]
        by_cases q : n = m
        · subst q; simp
        · have : ((n : Int) == (m : Int)) = false := beq_eq_false_iff_ne.mpr (by omega)
          rw [this]; simp [q]
      rw [e5]
      exact EqAt.int_int _ _ _ _)
    have e6 : ((List.range (min vs.toArray.size ws.toArray.size)).all (fun j => decide (ns.getD j 0 = ms.getD j 0)) && vs.toArray.size == ws.toArray.size) = decide (ns = ms) := by
      rw [← all_eq, List.size_toArray, List.size_toArray, hp.length, hq.length]
    rw [e6] at this
    exact .of_refs hne this
theorem AW.eqNorm {c : Cx} {vals : Vals} {news : Led} {aN aN' aT aT' : Addr} {vs ws : List Value} {ns ms : List Nat} {b b' : Nat} {t t' : Tok} {Φ : Value → Vals → Led → Prop} (hr : Room c.A 1) (h1 : HasL c news (aN, .tup [.ref aT, .int b t])) (h2 : HasL c news (aT, .tup vs)) (h3 : HasL c news (aN', .tup [.ref aT', .int b' t'])) (h4 : HasL c news (aT', .tup ws))
    (hp : Paired IsN vs ns) (hq : Paired IsN ws ms) (h : Φ (.bool (decide (ns = ms) && decide (b = b'))) vals news) : AW c (compareOp .Eq (.ref aN) (.ref aN')) vals news Φ := by
  intro g s R
  have tup : ∀ {a its}, HasL c news (a, .tup its) → s.heap.IsTuple a its.toArray := fun h => by
    obtain ⟨o, ho, ⟨n, rfl⟩, _⟩ := R.has h; exact ⟨_, ho, rfl, n, rfl⟩
  have hu := hr.uni
  refine eq_tupleAt (e := fun j => if j = 0 then decide (ns = ms) else decide (b = b')) (tup h1) (tup h3) (by omega) (fun j k1 k2 => ?_) ?_
  · rcases j with _ | _ | j
    · exact eqT (tup h2) (tup h4) hp hq (by show c.A.units + 1 < _; omega)
    · have e5 : decide (b = b') = ((b : Int) == (b' : Int)) := by
        by_cases q : b = b'
        · subst q; simp
        · have : ((b : Int) == (b' : Int)) = false := beq_eq_false_iff_ne.mpr (by omega)
          rw [this]; simp [q]
      show EqAt _ _ (.int b t) (.int b' t') (decide (b = b'))
      rw [e5]
      exact EqAt.int_int _ _ _ _
    · exact absurd k1 (by simp)
  · refine ⟨vals, news, R, ?_⟩
    have e : ((List.range (min [Value.ref aT, .int b t].toArray.size [Value.ref aT', .int b' t'].toArray.size)).all (fun j => if j = 0 then decide (ns = ms) else decide (b = b')) && [Value.ref aT, .int b t].toArray.size == [Value.ref aT', .int b' t'].toArray.size) = (decide (ns = ms) && decide (b = b')) := by
      show ((List.range 2).all _ && true) = _
      simp [List.range, List.range.loop]
    rw [e]; exact h

/-- what an object of the class holds, by the places H -/
inductive WSHas (P : Params) (H : Addr × MO → Prop) (x : Addr) (st : WSt) : Prop where
  | mk (dx aN aT : Addr) (cv : List Value) (l : List (Str × Tok × Value)) (tb tn : Tok) (d1 : H (x, .raw (instObj 83 dx))) (d2 : H (dx, .raw (dictOf (att P l) 5))) (d3 : H (aN, .tup [.ref aT, .int st.b tb])) (d4 : H (aT, .tup cv)) (d5 : Paired IsN cv st.count)
    (d6 : (l.find? fun e => decide (e.1 = Str.ofString "norm")).map (·.2.2) = some (.ref aN)) (d7 : (l.find? fun e => decide (e.1 = Str.ofString "nt")).map (·.2.2) = some (.int st.nt tn))
    (d8 : (l.find? fun e => decide (e.1 = Str.ofString "equal")) = none) (d9 : (l.find? fun e => decide (e.1 = Str.ofString "indent_level")) = none)
theorem WSat.has {P : Params} {H : Addr × MO → Prop} {x : Addr} {st : WSt} {tl : Led} (hw : WSat P x st tl) (hn : ∀ p ∈ tl, H p) : WSHas P H x st := by
  obtain ⟨dx, aN, aT, cv, v1, v2, v5, t1, t2, t3, t3', t4, t5, tb, hp, rfl⟩ := hw
  refine ⟨dx, aN, aT, cv, wsAtt aN st.nt v1 v2 v5 t1 t2 t3 t3' t4 t5, tb, t3', hn _ (by simp), hn _ (by simp), hn _ (by simp), hn _ (by simp), hp, ?_, ?_, ?_, ?_⟩ <;> kernel_rfl

theorem ws_equal (P : Params) : findIn (KF P) (.ref 83) (Str.ofString "equal") = some (some (.ref 59)) := by kernel_rfl
theorem ws_indent (P : Params) : findIn (KF P) (.ref 83) (Str.ofString "indent_level") = some (some (.ref 52)) := by kernel_rfl

theorem equal_spec (w : World) (x y : Addr) (st st' : WSt) (tl tl' need : Led) (h : WSat w.params x st tl) (h' : WSat w.params y st' tl') (hs : ∀ p ∈ tl, p ∈ need) (hs' : ∀ p ∈ tl', p ∈ need) :
    Spec w 2 (.ref 59) [.ref x, .ref y] need (OneR fun _ => .bool (decide (st.count = st'.count) && decide (st.b = st'.b))) := by
  refine enter (binds := [(Str.ofString "self", .ref x), (Str.ofString "other", .ref y)]) [Str.ofString "self", Str.ofString "other"] [some (.ref x), some (.ref y)] rfl rfl (by kernel_rfl) rfl
    (by decide) (locs rfl) rfl rfl rfl rfl rfl (by decide +kernel) (.has (by kernel_rfl) (.has (by kernel_rfl) .nil)) ?_
  intro A L s G hA hn
  have K := ws_norm w.params
  obtain ⟨dx, aN, aT, cv, l, tb, _, a1, a2, a3, a4, a5, a6, _⟩ := h.has fun p hp => hn p (hs p hp)
  obtain ⟨dx', aN', aT', cv', l', tb', _, b1, b2, b3, b4, b5, b6, _⟩ := h'.has fun p hp => hn p (hs' p hp)
  repeat walk_at "aw"
  walk_at "attr"
  repeat walk_at "aw"
  refine AW.instGet G (.inr a1) (.inr a2) K a6 rfl ?_
  walk_at "attr"
  repeat walk_at "aw"
  refine AW.instGet G (.inr b1) (.inr b2) K b6 rfl ?_
  refine AW.eqNorm hA (.inr a3) (.inr a4) (.inr b3) (.inr b4) a5 b5 ?_
  exact oneR ⟨0, rfl⟩

noncomputable def indIl (count : List Nat) (ts : Nat) (i : Nat) : Nat := (List.range i).foldl (fun il j => il + (ts + j) / ts * count.getD (ts + j) 0) 0
theorem indIl_succ (count : List Nat) (ts i : Nat) : indIl count ts (i + 1) = indIl count ts i + (ts + i) / ts * count.getD (ts + i) 0 := by
  unfold indIl
  rw [List.range_succ, List.foldl_append]; rfl
noncomputable def indent (st : WSt) (ts : Nat) : Nat := st.b + ts * (indIl st.count ts (st.count.length - ts) + st.nt)
inductive IInd (st : WSt) (ts : Nat) (x aT : Addr) (tt : Tok) (ro : Addr × MO) (j : Nat) : Vals → Led → Prop where
  | mk (tb ti : Tok) (z : Option Value) : IInd st ts x aT tt ro j [some (.ref x), some (.int ts tt), some (.ref aT), some (.int st.b tb), some (.int (indIl st.count ts j) ti), z] [ro]
theorem indent_spec (w : World) (x : Addr) (st : WSt) (tl need : Led) (ts : Nat) (tt : Tok) (h : WSat w.params x st tl) (hs : ∀ p ∈ tl, p ∈ need) (h0 : 1 ≤ ts) (h1 : ts ≤ 8) (hl : st.count.length ≤ 1000) (hc : ∀ k ∈ st.count, k < 2 ^ 40) (hnt : st.nt < 2 ^ 40) (hil : ∀ i, i ≤ st.count.length → indIl st.count ts i + st.nt < 2 ^ 60) :
    Spec w 1 (.ref 52) [.ref x, .int ts tt] need (OneR fun t => .int (indent st ts) t) := by
  refine enter (binds := [(Str.ofString "self", .ref x), (Str.ofString "tabsize", .int ts tt)]) [Str.ofString "self", Str.ofString "tabsize", Str.ofString "count", Str.ofString "trailing", Str.ofString "il", Str.ofString "i"] [some (.ref x), some (.int ts tt), none, none, none, none] rfl rfl (by kernel_rfl) rfl
    (by decide) (locs rfl) rfl rfl rfl rfl rfl (by decide +kernel) (.has (by kernel_rfl) (.has (by kernel_rfl) (.no (.no (.no (.no .nil)))))) ?_
  intro A L s G hA hn
  have K := ws_norm w.params
  have K2 := ws_nt w.params
  obtain ⟨dx, aN, aT, cv, l, tb, tn, c1, c2, c3, c4, a5, a6, a7, _⟩ := h.has fun p hp => hn p (hs p hp)
  have hcl := a5.length
  repeat walk_at "aw"
  walk_at "attr"
  repeat walk_at "aw"
  refine AW.instGet G (.inr c1) (.inr c2) K a6 rfl ?_
  walk_at "unpack2"
  repeat walk_at "aw"
  walk_at "for"
  repeat walk_at "aw"
  refine AW.lenT (by walk_at "has") (by omega) fun tn' => ?_
  repeat walk_at "aw"
  refine AW.range2 G fun r t1 => ?_
  refine ⟨[(r, .raw (rangeObj ts cv.length 1 tt tn' t1))], _, _, IInd st ts x aT tt (r, .raw (rangeObj ts cv.length 1 tt tn' t1)), starts_range (a := ts) (b := cv.length) (by omega) (by omega), by walk_at "one", ?_, ?_, ?_, ?_⟩
  · exact ⟨_, _, _⟩
  · rintro j v₂ n₂ ⟨tb', ti, z⟩
    walk_at "one"
  · rintro j hPhi0 hPhi v v₂ n₂ hj ⟨tv, rfl⟩ ⟨tb', ti, z⟩
    obtain ⟨k, hk⟩ : ∃ k, st.count[ts + j]? = some k := ⟨_, List.getElem?_eq_getElem (by omega)⟩
    obtain ⟨y, hy, ty, rfl⟩ := pget a5 _ _ hk
    have hkm := hc k (List.mem_of_getElem? hk)
    repeat walk_at "aw"
    refine AW.divI (by omega) (by omega) fun _ => ?_
    repeat walk_at "aw"
    walk_at "tailT"
    refine AW.getT (by walk_at "has") (by omega) (by omega) (by rw [show ((ts : Int) + (j : Int)).toNat = ts + j by omega]; exact hy) ?_
    refine AW.mulS (by omega) fun _ => ?_
    repeat walk_at "aw"
    have e1 : ((ts : Int) + (j : Int)).fdiv ts = (((ts + j) / ts : Nat) : Int) := by
      rw [Int.fdiv_eq_ediv_of_nonneg _ (by omega)]; norm_cast
    have e2 : st.count.getD (ts + j) 0 = k := by rw [List.getD_eq_getElem?_getD, hk]; rfl
    have e4 : (indIl st.count ts j : Int) + (((ts + j) / ts : Nat) : Int) * (k : Int) = ((indIl st.count ts (j + 1) : Nat) : Int) := by
      rw [indIl_succ, e2, Int.natCast_add, Int.natCast_mul]
    rw [e1, e4]
    exact ⟨_, _, _⟩
  · rintro v₂ n₂ ⟨tb', ti, z⟩
    repeat walk_at "aw"
    walk_at "attr"
    repeat walk_at "aw"
    refine AW.instGet G (by walk_at "has") (by walk_at "has") K2 a7 rfl ?_
    repeat walk_at "aw"
    refine AW.mulS ?_ fun _ => ?_
    · have := hil (((cv.length : Int) - (ts : Int)).toNat) (by omega)
      omega
    repeat walk_at "aw"
    refine oneR ?_
    have e3 : ((cv.length : Int) - (ts : Int)).toNat = st.count.length - ts := by omega
    unfold indent
    rw [← e3]
    rw [Int.natCast_add, Int.natCast_mul, Int.natCast_add]
    exact ⟨_, rfl⟩

/-! the leads that are counted -/
noncomputable def sumE (es : List (List Nat × Nat)) (φ : List Nat → Int) : Int := (es.map fun e => (e.2 : Int) * φ e.1).sum
structure LE (kvs : List (Str × Value)) (es : List (List Nat × Nat)) : Prop where
  p : Paired (fun (kv : Str × Value) (e : List Nat × Nat) => kv.1 = ⟨e.1.toArray⟩ ∧ IsN kv.2 e.2) kvs es
  nd : (es.map (·.1)).Nodup
theorem st_inj {a b : List Nat} (h : (⟨a.toArray⟩ : Str) = ⟨b.toArray⟩) : a = b := by
  have : a.toArray = b.toArray := congrArg Str.cps h
  simpa using this
theorem valueAt_cons (kv : Str × Value) (r : List (Str × Value)) (k : Str) : valueAt (kv :: r) k = if kv.1 = k then some kv.2 else valueAt r k := by
  unfold valueAt
  rw [List.find?_cons]
  by_cases h : kv.1 = k
  · simp [h]
  · simp [h]
theorem LE.get {kvs : List (Str × Value)} {es : List (List Nat × Nat)} (p : Paired (fun (kv : Str × Value) (e : List Nat × Nat) => kv.1 = ⟨e.1.toArray⟩ ∧ IsN kv.2 e.2) kvs es) (l : List Nat) :
    (l ∉ es.map (·.1) → valueAt kvs ⟨l.toArray⟩ = none) ∧ (∀ e ∈ es, e.1 = l → (es.map (·.1)).Nodup → ∃ t, valueAt kvs ⟨l.toArray⟩ = some (.int e.2 t)) := by
  induction p with
  | nil => exact ⟨fun _ => rfl, fun e he => by cases he⟩
  | @cons kv e0 r es h _ ih =>
    obtain ⟨h1, t, h2⟩ := h
    refine ⟨fun hn => ?_, fun e he hel hnd => ?_⟩
    · rw [valueAt_cons, if_neg, ih.1 fun q => hn (List.mem_cons_of_mem _ q)]
      rw [h1]; intro q; exact hn (by rw [← st_inj q]; exact List.mem_cons_self)
    · rw [valueAt_cons]
      rw [List.map_cons] at hnd
      obtain ⟨n1, n2⟩ := List.nodup_cons.mp hnd
      rcases List.mem_cons.mp he with rfl | he
      · rw [if_pos (by rw [h1, hel])]; exact ⟨t, by rw [h2]⟩
      · rw [if_neg]
        · exact ih.2 e he hel n2
        · rw [h1]; intro q
          have := st_inj q
          rw [← hel] at this
          exact n1 (this ▸ List.mem_map_of_mem (f := (·.1)) he)
theorem sumE_set (l : List Nat) (φ : List Nat → Int) : ∀ (es : List (List Nat × Nat)) (n : Nat), (es.map (·.1)).Nodup → (l, n) ∈ es → sumE (es.map fun e => if e.1 = l then (e.1, n + 1) else e) φ = sumE es φ + φ l
  | [], n, _, h => by cases h
  | e :: es, n, hnd, h => by
    rw [List.map_cons] at hnd
    obtain ⟨n1, n2⟩ := List.nodup_cons.mp hnd
    have hcons : ∀ (a : List Nat × Nat) (b : List (List Nat × Nat)), sumE (a :: b) φ = (a.2 : Int) * φ a.1 + sumE b φ := fun a b => by simp [sumE]
    rcases List.mem_cons.mp h with rfl | h
    · rw [List.map_cons, if_pos rfl, hcons, hcons]
      have : es.map (fun e => if e.1 = l then (e.1, n + 1) else e) = es := by
        refine (List.map_congr_left fun x hx => ?_).trans (List.map_id es)
        rw [if_neg]; · rfl
        intro q; exact n1 (q ▸ List.mem_map_of_mem (f := (·.1)) hx)
      rw [this]
      have e1 : ((n + 1 : Nat) : Int) * φ l = (n : Int) * φ l + φ l := by rw [Int.natCast_add, Int.add_mul]; simp
      simp only [e1]; omega
    · have hne : e.1 ≠ l := fun q => n1 (q ▸ List.mem_map_of_mem (f := (·.1)) h)
      rw [List.map_cons, if_neg hne, hcons, hcons, sumE_set l φ es n n2 h]; omega
theorem pmap2 {α β : Type} {F : α → β → Prop} (f : α → α) (g : β → β) (k : ∀ a b, F a b → F (f a) (g b)) : ∀ {l : List α} {m : List β}, Paired F l m → Paired F (l.map f) (m.map g)
  | _, _, .nil => .nil
  | _, _, .cons h t => .cons (k _ _ h) (pmap2 f g k t)
theorem LE.step {kvs : List (Str × Value)} {es : List (List Nat × Nat)} (h : LE kvs es) (l : List Nat) (t0 : Tok) : ∃ n es', (∃ t, (valueAt kvs ⟨l.toArray⟩).getD (.int ((0 : Nat) : Int) t0) = .int (n : Nat) t) ∧
    (∀ t, LE (stored kvs ⟨l.toArray⟩ (.int ((n + 1 : Nat) : Int) t)) es') ∧ es'.length ≤ es.length + 1 ∧ (∀ φ, sumE es' φ = sumE es φ + φ l) ∧ ∀ e ∈ es', e.1 = l ∨ ∃ e' ∈ es, e'.1 = e.1 := by
  by_cases hm : l ∈ es.map (·.1)
  · obtain ⟨e, he, hel⟩ := List.mem_map.mp hm
    obtain ⟨t, ht⟩ := (LE.get h.p l).2 e he hel h.nd
    refine ⟨e.2, es.map fun x => if x.1 = l then (x.1, e.2 + 1) else x, ⟨t, by rw [ht]; rfl⟩, fun t1 => ⟨?_, ?_⟩, by simp, fun φ => sumE_set l φ es e.2 h.nd (by rw [← hel]; exact he), ?_⟩
    · have ha : kvs.any (fun kv => kv.1 = ⟨l.toArray⟩) = true := by
        rw [← PyProof.Rows.valueAt_isSome_eq_any, ht]; rfl
      unfold stored
      rw [if_pos ha]
      refine pmap2 _ _ (fun kv x hx => ?_) h.p
      by_cases q : x.1 = l
      · rw [if_pos q, if_pos (by rw [hx.1, q])]; exact ⟨hx.1, t1, rfl⟩
      · rw [if_neg q, if_neg (by rw [hx.1]; exact fun z => q (st_inj z))]; exact hx
    · rw [List.map_map]
      have : es.map ((fun x : List Nat × Nat => x.1) ∘ fun x => if x.1 = l then (x.1, e.2 + 1) else x) = es.map (·.1) := by
        refine List.map_congr_left fun x _ => ?_
        show (if x.1 = l then (x.1, e.2 + 1) else x).1 = x.1
        split <;> rfl
      rw [this]; exact h.nd
    · intro x hx
      obtain ⟨y, hy, rfl⟩ := List.mem_map.mp hx
      refine .inr ⟨y, hy, ?_⟩
      split <;> rfl
  · have h0 := (LE.get h.p l).1 hm
    refine ⟨0, es ++ [(l, 1)], ⟨t0, by rw [h0]; rfl⟩, fun t1 => ⟨?_, ?_⟩, by simp, fun φ => ?_, ?_⟩
    · rw [PyProof.Rows.stored_absent h0]
      exact h.p.snoc ⟨rfl, t1, rfl⟩
    · rw [List.map_append]
      refine List.nodup_append.mpr ⟨h.nd, by simp, fun x hx y hy q => ?_⟩
      simp at hy
      rw [q, hy] at hx
      exact hm hx
    · simp [sumE]
    · intro x hx
      rcases List.mem_append.mp hx with hx | hx
      · exact .inr ⟨x, hx, rfl⟩
      · rw [List.mem_singleton.mp hx]; exact .inl rfl

noncomputable def wsT (p : List Nat) : WSt := wsRun (leadL p)
theorem wsT_facts : ∀ p ∈ P24, (∀ c ∈ leadL p, c = 32 ∨ c = 9) ∧ (wsT p).b = 0 ∧ (wsT p).nt = (wsT p).count.sum := by decide +kernel

structure KD where
  a : Addr
  x : Addr
  n : Nat
  tn : Tok
  st : WSt
  tl : Led
noncomputable def KD.led (k : KD) : Led := (k.a, .list [.ref k.x, .int k.n k.tn]) :: k.tl
noncomputable def KL (ks : List KD) : Led := ks.flatMap KD.led
noncomputable def sumK (ks : List KD) (φ : List Nat → Int) : Int := (ks.map fun k => (k.n : Int) * φ k.st.count).sum
structure KOK (P : Params) (ks : List KD) : Prop where
  ws : ∀ k ∈ ks, WSat P k.x k.st k.tl
  of : ∀ k ∈ ks, ∃ p ∈ P24, k.st = wsT p
  nd : (ks.map (·.st.count)).Nodup
theorem KL_app (ks : List KD) (k : KD) : KL (ks ++ [k]) = KL ks ++ k.led := by simp [KL]
theorem KL_split (pre : List KD) (k : KD) (post : List KD) : KL (pre ++ k :: post) = KL pre ++ (k.a, .list [.ref k.x, .int k.n k.tn]) :: (k.tl ++ KL post) := by simp [KL, KD.led]
theorem sumK_app (ks : List KD) (k : KD) (φ : List Nat → Int) : sumK (ks ++ [k]) φ = sumK ks φ + (k.n : Int) * φ k.st.count := by simp [sumK]

theorem ksplit {ks : List KD} {i : Nat} {k : KD} (h : ks[i]? = some k) : ∃ pre post, ks = pre ++ k :: post ∧ pre.length = i ∧ ∀ k', ks.set i k' = pre ++ k' :: post := by
  induction ks generalizing i with
  | nil => cases h
  | cons x r ih =>
    cases i with
    | zero => simp at h; subst h; exact ⟨[], r, rfl, rfl, fun k' => rfl⟩
    | succ i =>
      obtain ⟨pre, post, e1, e2, e3⟩ := ih (i := i) (by simpa using h)
      refine ⟨x :: pre, post, by rw [e1]; rfl, by simp [e2], fun k' => ?_⟩
      rw [List.set_cons_succ, e3]; rfl
noncomputable def KD.up (k : KD) (m : Nat) (t : Tok) : KD := ⟨k.a, k.x, k.n + m, t, k.st, k.tl⟩
theorem kbump {P : Params} {ks : List KD} {i : Nat} {k : KD} (h : ks[i]? = some k) (K : KOK P ks) (m : Nat) (t : Tok) : KOK P (ks.set i (k.up m t)) ∧ (∀ φ, sumK (ks.set i (k.up m t)) φ = sumK ks φ + (m : Int) * φ k.st.count) ∧
    ((ks.set i (k.up m t)).map fun k => Value.ref k.a) = (ks.map fun k => Value.ref k.a) := by
  obtain ⟨pre, post, rfl, e2, e3⟩ := ksplit h
  rw [e3]
  refine ⟨⟨fun x hx => ?_, fun x hx => ?_, ?_⟩, fun φ => ?_, by simp [KD.up]⟩
  · rcases List.mem_append.mp hx with q | q
    · exact K.ws x (by simp [q])
    · rcases List.mem_cons.mp q with rfl | q
      · exact K.ws k (by simp)
      · exact K.ws x (by simp [q])
  · rcases List.mem_append.mp hx with q | q
    · exact K.of x (by simp [q])
    · rcases List.mem_cons.mp q with rfl | q
      · exact K.of k (by simp)
      · exact K.of x (by simp [q])
  · have := K.nd
    simpa [KD.up] using this
  · simp only [sumK, List.map_append, List.map_cons, List.sum_append, List.sum_cons, KD.up]
    rw [Int.natCast_add, Int.add_mul]; omega
theorem kpush {P : Params} {ks : List KD} (K : KOK P ks) (k : KD) (hw : WSat P k.x k.st k.tl) (hp : ∃ p ∈ P24, k.st = wsT p) (hn : ∀ (i : Nat) (x : KD), ks[i]? = some x → x.st.count ≠ k.st.count) : KOK P (ks ++ [k]) := by
  refine ⟨fun x hx => ?_, fun x hx => ?_, ?_⟩
  · rcases List.mem_append.mp hx with q | q
    · exact K.ws x q
    · rw [List.mem_singleton.mp q]; exact hw
  · rcases List.mem_append.mp hx with q | q
    · exact K.of x q
    · rw [List.mem_singleton.mp q]; exact hp
  · rw [List.map_append]
    refine List.nodup_append.mpr ⟨K.nd, by simp, fun x hx y hy e => ?_⟩
    obtain ⟨z, hz, rfl⟩ := List.mem_map.mp hx
    simp at hy
    obtain ⟨i, hi, e3⟩ := List.mem_iff_getElem.mp hz
    exact hn i z (by rw [List.getElem?_eq_getElem hi, e3]) (e.trans hy)
theorem perm3 {α : Type} (a b : α) (l m : List α) : (a :: b :: (l ++ m)).Perm (l ++ a :: b :: m) := (List.perm_middle.trans (List.perm_middle.cons a)).symm
theorem kmem {ks : List KD} {k : KD} (h : k ∈ ks) : (k.a, MO.list [.ref k.x, .int k.n k.tn]) ∈ KL ks ∧ ∀ p ∈ k.tl, p ∈ KL ks :=
  ⟨List.mem_flatMap.mpr ⟨k, h, List.mem_cons_self⟩, fun p hp => List.mem_flatMap.mpr ⟨k, h, List.mem_cons_of_mem _ hp⟩⟩
theorem kupd {ks : List KD} {i : Nat} {k : KD} (h : ks[i]? = some k) (m : Nat) (t : Tok) (tl : Led) : Upd k.a (.list [.ref k.x, .int ((k.n : Int) + (m : Int)) t]) (tl ++ KL ks) (tl ++ KL (ks.set i (k.up m t))) := by
  obtain ⟨pre, post, rfl, e2, e3⟩ := ksplit h
  rw [e3, KL_split, KL_split]
  exact .app (.mid _) _
theorem ws_keep (P : Params) : keepIn (KF P) (.ref 59) = true := by kernel_rfl
theorem ws_isfn (P : Params) : isFn (KF P) (.ref 59) = true := by kernel_rfl
theorem ws_pg (P : Params) : plainGet (KF P) 83 (Str.ofString "equal") = true := by kernel_rfl

inductive KLeads (r : Str) (t : Tok) (aW aD : Addr) (ps : List (List Nat)) (i : Nat) : Vals → Led → Prop where
  | mk (kvs : List (Str × Value)) (es : List (List Nat × Nat)) (wv lv : Option Value) (hE : LE kvs es) (hof : ∀ e ∈ es, ∃ p ∈ P24, e.1 = leadL p) (hel : es.length ≤ i) (hsum : ∀ φ, sumE es φ = ((ps.take i).map fun p => φ (leadL p)).sum) :
    KLeads r t aW aD ps i [some (.str r t), some (.ref aW), some (.ref aD), wv, lv, none, none, none, none] [(aD, .dict kvs)]
inductive KOut (P : Params) (r : Str) (t : Tok) (aW aD aK : Addr) (wv : Option Value) (o : Obj) (es : List (List Nat × Nat)) (i : Nat) : Vals → Led → Prop where
  | mk (ks : List KD) (a1 a2 a3 a4 : Option Value) (hK : KOK P ks) (hkn : ks.length ≤ i) (hsK : ∀ φ, sumK ks φ = sumE (es.take i) (fun l => φ (wsRun l).count)) :
    KOut P r t aW aD aK wv o es i [some (.str r t), some (.ref aW), some (.ref aD), wv, a1, some (.ref aK), a2, a3, a4] ((aK, .list (ks.map fun k => Value.ref k.a)) :: (aD, .raw o) :: KL ks)
inductive KIn (ks : List KD) (c : List Nat) (m j : Nat) : Bool → List KD → Prop where
  | same (hno : ∀ (i : Nat) (k : KD), i < j → ks[i]? = some k → k.st.count ≠ c) : KIn ks c m j true ks
  | found (i : Nat) (k : KD) (tt : Tok) (hk : ks[i]? = some k) (hc : k.st.count = c) : KIn ks c m j false (ks.set i (k.up m tt))
inductive KInn (r : Str) (t : Tok) (aW aD aK x : Addr) (wv : Option Value) (o : Obj) (l : Str) (tlN : Led) (ks : List KD) (c : List Nat) (m j : Nat) : Vals → Led → Prop where
  | mk (kk : Option Value) (fr : Bool) (ks' : List KD) (tl1 : Tok) (hin : KIn ks c m j fr ks') :
    KInn r t aW aD aK x wv o l tlN ks c m j [some (.str r t), some (.ref aW), some (.ref aD), wv, some (.str l tl1), some (.ref aK), some (.ref x), some (.bool fr), kk] ((aK, .list (ks.map fun k => Value.ref k.a)) :: (aD, .raw o) :: (tlN ++ KL ks'))
theorem kinds_spec (w : World) (r : Str) (t : Tok) (aW : Addr) (vs : List Value) (ps : List (List Nat)) (need : Led) (hWm : (aW, .list vs) ∈ need) (hvs : Paired IsStr vs (ps.map (wd r))) (hps : ∀ p ∈ ps, p ∈ P24) (hlen : ps.length ≤ 24) (hr : Four r)
    (h65 : ∀ c, r.cps.toList[0]? = some c → c ≠ 32 ∧ c ≠ 9) :
    Spec w 3 (.ref 167) [.str r t, .ref aW] need (fun v tl => ∃ aK ks, v = .ref aK ∧ tl = (aK, .list (ks.map fun k => Value.ref k.a)) :: KL ks ∧ KOK w.params ks ∧ ∀ φ, sumK ks φ = (ps.map fun p => φ (wsT p).count).sum) := by
  refine enter (binds := [(Str.ofString "rounds", .str r t), (Str.ofString "words", .ref aW)]) [Str.ofString "rounds", Str.ofString "words", Str.ofString "leads", Str.ofString "word", Str.ofString "lead", Str.ofString "kinds", Str.ofString "told", Str.ofString "fresh", Str.ofString "kind"]
    [some (.str r t), some (.ref aW), none, none, none, none, none, none, none] rfl rfl (by kernel_rfl) rfl
    (by decide) (locs rfl) rfl rfl rfl rfl rfl (by decide +kernel) (.has (by kernel_rfl) (.has (by kernel_rfl) (.no (.no (.no (.no (.no (.no (.no .nil))))))))) ?_
  intro A L s G hA hn
  have hWd := hn _ hWm
  have hvl := hvs.length
  rw [List.length_map] at hvl
  walk_at "hide"
  repeat walk_at "aw"
  rename_i aD
  refine AW.mono (Φ := fun f v n => f = .next ∧ KLeads r t aW aD ps ps.length v n) ?_ ?_
  · walk_at "hide"
    walk_at "for"
    repeat walk_at "aw"
    refine ⟨_, _, _, KLeads r t aW aD ps, starts_list, by walk_at "one", ?_, ?_, ?_, ?_⟩
    · exact ⟨[], [], _, _, ⟨.nil, .nil⟩, (by intro e he; cases he), Nat.le_refl _, fun φ => rfl⟩
    · rintro i v₂ n₂ ⟨kvs, es, wv, lv, _⟩
      walk_at "one"
    · rintro i hPhi0 hPhi v v₂ n₂ hi hv ⟨kvs, es, wv, lv, hE, hof, hel, hsum⟩
      obtain ⟨y, hy, ty, rfl⟩ := pgetL hvs i v hv
      obtain ⟨p, hp, rfl⟩ : ∃ p, ps[i]? = some p ∧ wd r p = y := by
        rw [List.getElem?_map] at hy
        cases e : ps[i]? with
        | none => rw [e] at hy; cases hy
        | some p => rw [e] at hy; exact ⟨p, rfl, Option.some.inj hy⟩
      have hpP := hps p (List.mem_of_getElem? hp)
      have hkl : kvs.length = es.length := hE.p.length
      repeat walk_at "aw"
      refine AW.callO (lead_spec _ r t ty p hr hpP) (hA.less (by decide)) G (by intro p hp; cases hp) fun tv => ?_
      repeat walk_at "aw"
      with_reducible refine' AW.assignSub rfl ?_
      repeat walk_at "aw"
      walk_at "m_get"
      repeat walk_at "aw"
      refine ⟨isD (by walk_at "has"), ?_⟩
      repeat walk_at "aw"
      rename_i t0
      obtain ⟨n, es', ⟨tn, hn1⟩, hE', hl', hs', ho'⟩ := hE.step (leadL p) t0
      refine AW.getDef (by walk_at "has") ?_
      have hn2 : (valueAt kvs ⟨(leadL p).toArray⟩).getD (.int 0 t0) = .int (n : Nat) tn := hn1
      rw [hn2]
      repeat walk_at "aw"
      refine AW.setD (by walk_at "mem") (by walk_at "upd") (by rw [sizeLine_eq]; omega) ?_
      repeat walk_at "aw"
      refine ⟨_, es', _, _, hE' _, ?_, by omega, fun φ => ?_⟩
      · intro e he
        rcases ho' e he with q | ⟨e', he', q⟩
        · exact ⟨p, hpP, q⟩
        · obtain ⟨p', hp', e2⟩ := hof e' he'; exact ⟨p', hp', by rw [← q, e2]⟩
      · rw [hs' φ, hsum φ, List.take_add_one, hp]; simp
    · intro v₂ n₂ h
      walk_at "leaf"
      rw [hvl] at h
      exact ⟨rfl, h⟩
  · rintro _ v n ⟨rfl, kvs, es, wv, lv, hE, hof, hel, hsum⟩
    rw [List.take_length] at hsum
    repeat walk_at "aw"
    rename_i aK
    have hkl : kvs.length = es.length := hE.p.length
    refine AW.freeze2 (news' := fun o => [(aK, .list []), (aD, .raw o)]) (by walk_at "mem") (fun _ => .there .here) fun o hdo hz => ?_
    refine AW.mono (Φ := fun f v n => f = .next ∧ KOut w.params r t aW aD aK wv o es kvs.length v n) ?_ ?_
    · walk_at "hide"
      walk_at "for"
      repeat walk_at "aw"
      refine ⟨_, _, _, KOut w.params r t aW aD aK wv o es, starts_keys hdo hz, by walk_at "one", ?_, ?_, ?_, ?_⟩
      · exact ⟨[], _, _, _, _, ⟨(by intro k hk; cases hk), (by intro k hk; cases hk), .nil⟩, Nat.le_refl _, fun φ => rfl⟩
      · rintro i v₂ n₂ ⟨ks, a1, a2, a3, a4, _⟩
        walk_at "one"
      · rintro i hPhi0 hPhi v v₂ n₂ hi ⟨key, x, tk, hkx, rfl⟩ ⟨ks, a1, a2, a3, a4, hK, hkn, hsK⟩
        obtain ⟨e, he, e1, tx, e2⟩ := pgetL hE.p i _ hkx
        have e1 : key = ⟨e.1.toArray⟩ := e1
        have e2 : x = .int (e.2 : Nat) tx := e2
        subst e1 e2
        obtain ⟨p, hpP, hep⟩ := hof e (List.mem_of_getElem? he)
        obtain ⟨t9, hval⟩ := (LE.get hE.p e.1).2 e (List.mem_of_getElem? he) rfl hE.nd
        have hst : wsRun e.1 = wsT p := by rw [hep]; rfl
        have hll := leadL_len p hpP
        rw [← hep] at hll
        have hstr : (⟨e.1.toArray⟩ : Str) ++ r = ⟨(e.1 ++ r.cps.toList).toArray⟩ := by
          have := str_app e.1 r.cps.toList
          rw [← this]
        have hS : ∀ tX, Spec w 2 (.ref 83) [.str ((⟨e.1.toArray⟩ : Str) ++ r) tX] [] (fun v tl => ∃ x, v = .ref x ∧ WSat w.params x (wsRun e.1) tl) := fun tX => by
          rw [hstr]; exact ws_spec w e.1 r.cps.toList tX (by rw [hep]; exact (wsT_facts p hpP).1) h65 (by omega)
        repeat walk_at "aw"
        refine AW.addS ?_ fun _ => ?_
        · rw [sizeLine_eq]; have := hr.sz; show e.1.toArray.size + r.cps.size ≤ _; simp; omega
        repeat walk_at "aw"
        refine AW.callS (hS _) hA G (by intro p hp; cases hp) ?_
        rintro v tlN ⟨x', rfl, hW⟩
        refine AW.permuted (perm3 _ _ _ _) ?_
        repeat walk_at "aw"
        refine AW.mono (Φ := fun f v n => f = .next ∧ KInn r t aW aD aK x' wv o ⟨e.1.toArray⟩ tlN ks (wsRun e.1).count e.2 ks.length v n) ?_ ?_
        · walk_at "hide"
          walk_at "for"
          repeat walk_at "aw"
          refine ⟨_, _, _, KInn r t aW aD aK x' wv o ⟨e.1.toArray⟩ tlN ks (wsRun e.1).count e.2, starts_list, by walk_at "one", ?_, ?_, ?_, ?_⟩
          · exact ⟨_, _, _, _, .same fun i k hi => by omega⟩
          · rintro j v₂ n₂ ⟨kk, fr, ks', tl1, _⟩
            walk_at "one"
          · rintro j hPhi0 hPhi v v₂ n₂ hj hv ⟨kk, fr, ks', tl1, hin⟩
            obtain ⟨k, hk, rfl⟩ : ∃ k, ks[j]? = some k ∧ Value.ref k.a = v := by
              rw [List.getElem?_map] at hv
              cases e : ks[j]? with
              | none => rw [e] at hv; cases hv
              | some k => rw [e] at hv; exact ⟨k, rfl, Option.some.inj hv⟩
            have hkm := List.mem_of_getElem? hk
            repeat walk_at "aw"
            rcases hin with ⟨hno⟩ | ⟨i', k', tt, hk', hc'⟩
            · refine ifT rfl ?_
              repeat walk_at "aw"
              have hmk : (k.a, MO.list [.ref k.x, .int k.n k.tn]) ∈ (aK, .list (ks.map fun k => Value.ref k.a)) :: (aD, .raw o) :: (tlN ++ KL ks) := List.mem_cons_of_mem _ (List.mem_cons_of_mem _ (List.mem_append_right _ (kmem hkm).1))
              have hmt : ∀ p ∈ k.tl, p ∈ (aK, .list (ks.map fun k => Value.ref k.a)) :: (aD, .raw o) :: (tlN ++ KL ks) := fun p hp => List.mem_cons_of_mem _ (List.mem_cons_of_mem _ (List.mem_append_right _ ((kmem hkm).2 p hp)))
              have hmN : ∀ p ∈ tlN, p ∈ (aK, .list (ks.map fun k => Value.ref k.a)) :: (aD, .raw o) :: (tlN ++ KL ks) := fun p hp => List.mem_cons_of_mem _ (List.mem_cons_of_mem _ (List.mem_append_left _ hp))
              obtain ⟨dx, aN, aT, cv, l, tb, tq, d1, d2, d3, d4, d5, d6, d7, d8, d9⟩ := (hK.ws k hkm).has (H := fun p => p ∈ (aK, .list (ks.map fun k => Value.ref k.a)) :: (aD, .raw o) :: (tlN ++ KL ks)) hmt
              with_reducible refine' AW.callI (f := 59) (C := 83) G ?k1 ?k2 ?k3 ?k4 ?k5 ?k6 ?k7 ?_
              case k1 => rfl
              case k2 => rfl
              case k3 => rfl
              case k4 => exact ws_pg _
              case k5 => exact ws_equal _
              case k6 => exact ws_isfn _
              case k7 => exact ws_keep _
              repeat walk_at "aw"
              refine AW.tailL (.inl hmk) (by with_unfolding_all rfl) ?_
              refine AW.getL (.inl hmk) (by decide) (by decide) rfl ?_
              refine ⟨k.x, dx, l, 5, rfl, .inl d1, .inl d2, d8, ?_⟩
              repeat walk_at "aw"
              refine AW.callO (equal_spec _ k.x x' k.st (wsRun e.1) k.tl tlN (k.tl ++ tlN) (hK.ws k hkm) hW (fun p hp => List.mem_append_left _ hp) (fun p hp => List.mem_append_right _ hp)) hA G (fun p hp => .inl ((List.mem_append.mp hp).elim (hmt p) (hmN p))) fun _ => ?_
              obtain ⟨p', hp', hk'⟩ := hK.of k hkm
              have hb : decide (k.st.b = (wsRun e.1).b) = true := by
                rw [hk', hst]; exact decide_eq_true ((wsT_facts p' hp').2.1.trans (wsT_facts p hpP).2.1.symm)
              rw [hb, Bool.and_true]
              repeat walk_at "aw"
              by_cases hc : k.st.count = (wsRun e.1).count
              · refine ifD hc ?_
                repeat walk_at "aw"
                with_reducible refine' AW.augSub ?k1 ?_
                case k1 => intro _ _ _; rfl
                repeat walk_at "aw"
                refine AW.getL (.inl hmk) (by decide) (by decide) rfl ?_
                repeat walk_at "aw"
                refine AW.tailDR (by walk_at "has") hdo (by with_unfolding_all rfl) ?_
                refine AW.getDR (by walk_at "has") hdo hval ?_
                repeat walk_at "aw"
                refine AW.setL (news' := (aK, .list (ks.map fun k => Value.ref k.a)) :: (aD, .raw o) :: (tlN ++ KL (ks.set j (k.up e.2 _)))) hmk (.there (.there (kupd hk e.2 _ tlN))) (by decide) (by show (1 : Int) < 2; decide) (by rw [sizeLine_eq]; show 2 ≤ _; decide) ?_
                repeat walk_at "aw"
                exact ⟨_, false, _, _, .found j k _ hk hc⟩
              · refine ifE hc ?_
                repeat walk_at "aw"
                refine ⟨_, true, _, _, .same fun i k2 hi hk2 => ?_⟩
                rcases Nat.lt_or_ge i j with z | z
                · exact hno i k2 z hk2
                · have : i = j := by omega
                  subst this
                  rw [hk] at hk2; cases hk2; exact hc
            · refine ifN Bool.false_ne_true ?_
              refine ifN Bool.false_ne_true ?_
              repeat walk_at "aw"
              exact ⟨_, _, _, _, .found i' k' tt hk' hc'⟩
          · intro v₂ n₂ h
            walk_at "leaf"
            rw [List.length_map] at h
            exact ⟨rfl, h⟩
        · rintro _ v n ⟨rfl, kk, fr, ks', tl1, hin⟩
          walk_at "go"
          refine AW.weakP ?_
          repeat walk_at "aw"
          rcases hin with ⟨hno⟩ | ⟨i', k', tt, hk', hc'⟩
          · refine ifT rfl ?_
            repeat walk_at "aw"
            walk_at "m_append"
            repeat walk_at "aw"
            refine ⟨isL (by walk_at "has"), ?_⟩
            repeat walk_at "aw"
            refine AW.tailDR (by walk_at "has") hdo (by with_unfolding_all rfl) ?_
            refine AW.getDR (by walk_at "has") hdo hval ?_
            repeat walk_at "aw"
            rename_i aNew
            refine AW.append (by walk_at "mem") (by walk_at "upd") (by rw [sizeLine_eq, List.length_map]; omega) ?_
            refine ⟨rfl, ?_⟩
            repeat walk_at "aw"
            have hmap : (ks.map fun k => Value.ref k.a) ++ [Value.ref aNew] = ((ks ++ [KD.mk aNew x' e.2 t9 (wsRun e.1) tlN]).map fun k => Value.ref k.a) := by simp
            refine ⟨_, (aK, .list ((ks ++ [KD.mk aNew x' e.2 t9 (wsRun e.1) tlN]).map fun k => Value.ref k.a)) :: (aD, .raw o) :: KL (ks ++ [KD.mk aNew x' e.2 t9 (wsRun e.1) tlN]), .refl _, ?_, hPhi _ _ _ ⟨ks ++ [KD.mk aNew x' e.2 t9 (wsRun e.1) tlN], _, _, _, _, kpush hK _ hW ⟨p, hpP, hst⟩ fun i k hk => hno i k (List.getElem?_eq_some_iff.mp hk).1 hk, by simp; omega, fun φ => ?_⟩⟩
            · rw [hmap, KL_app]
              refine List.Perm.trans ?_ ((List.Perm.swap _ _ _).trans ((List.Perm.swap _ _ _).cons _)).symm
              refine List.Perm.cons _ (List.Perm.cons _ ?_)
              exact List.perm_append_comm (l₁ := KL ks) (l₂ := (aNew, MO.list [.ref x', .int e.2 t9]) :: tlN)
            · rw [sumK_app, hsK, List.take_add_one, he]
              simp [sumE]
          · refine ifN Bool.false_ne_true ?_
            repeat walk_at "aw"
            obtain ⟨q1, q2, q3⟩ := kbump hk' hK e.2 tt
            refine ⟨_, (aK, .list ((ks.set i' (k'.up e.2 tt)).map fun k => Value.ref k.a)) :: (aD, .raw o) :: KL (ks.set i' (k'.up e.2 tt)), .cons_cons _ (.cons_cons _ (List.sublist_append_right _ _)), by rw [q3], hPhi _ _ _ ⟨ks.set i' (k'.up e.2 tt), _, _, _, _, q1, (by rw [List.length_set]; omega), fun φ => ?_⟩⟩
            rw [q2, hsK, hc', List.take_add_one, he]
            simp [sumE]
      · intro v₂ n₂ h
        walk_at "leaf"
        exact ⟨rfl, h⟩
    · rintro _ v n ⟨rfl, ks, a1, a2, a3, a4, hK, hkn, hsK⟩
      repeat walk_at "aw"
      exact ⟨(aK, .list (ks.map fun k => Value.ref k.a)) :: KL ks, .cons_cons _ (.cons _ (.refl _)), aK, ks, rfl, rfl, hK, fun φ => by rw [hsK φ, List.take_of_length_le (by omega), hsum]; rfl⟩

/-! the parity of an order -/
noncomputable def cI (u : List Nat) (two k : Nat) : Nat := ((List.range k).filter fun one => decide (u.getD two 0 < u.getD one 0)).length
noncomputable def sI (u : List Nat) (j : Nat) : Nat := ((List.range j).map fun two => cI u two two).sum
noncomputable def invN (u : List Nat) : Nat := sI u 4
theorem cI_succ (u : List Nat) (two k : Nat) : cI u two (k + 1) = cI u two k + if u.getD two 0 < u.getD k 0 then 1 else 0 := by
  unfold cI
  rw [List.range_succ, List.filter_append, List.length_append]
  rw [List.filter_cons]
  by_cases h : u.getD two 0 < u.getD k 0
  · rw [if_pos (decide_eq_true h), if_pos h]; rfl
  · rw [if_neg (by rw [decide_eq_false h]; exact Bool.false_ne_true), if_neg h]; rfl
theorem sI_succ (u : List Nat) (j : Nat) : sI u (j + 1) = sI u j + cI u j j := by
  unfold sI
  rw [List.range_succ, List.map_append, List.sum_append]; simp
noncomputable def oddN (u : List Nat) : Nat := invN u % 2

theorem oddN_lt (u : List Nat) : oddN u < 2 := Nat.mod_lt _ (by decide)
theorem mv_assoc (a : List Nat) {b c : List Nat} (hc : ∀ i ∈ c, i < b.length) : mv (mv a b) c = mv a (mv b c) := by
  unfold mv
  rw [List.map_map]
  refine List.map_congr_left fun i hi => ?_
  have := hc i hi
  simp [this]
theorem mv_assoc24 {a b c : List Nat} (hb : b ∈ P24) (hc : c ∈ P24) : mv (mv a b) c = mv a (mv b c) :=
  mv_assoc a fun i hi => by rw [(P24_small b hb).1]; exact (P24_small c hc).2 i hi
theorem mv_one_l : ∀ p ∈ P24, mv [0, 1, 2, 3] p = p := by decide +kernel
theorem mv_one_r : ∀ p ∈ P24, mv p [0, 1, 2, 3] = p := by decide +kernel
theorem odd_mv : ∀ p ∈ P24, ∀ q ∈ P24, oddN (mv p q) = (oddN p + oddN q) % 2 := by decide +kernel
theorem odd_one : oddN [0, 1, 2, 3] = 0 := by decide +kernel

theorem Gen.mem {os : List (List Nat)} (hos : ∀ o ∈ os, o ∈ P24) {p : List Nat} (h : Gen os p) : p ∈ P24 := by
  induction h with
  | one => exact P24_one
  | step _ ho ih => exact mv_mem _ ih _ (hos _ ho)
theorem Gen.left {os : List (List Nat)} (hos : ∀ o ∈ os, o ∈ P24) {o p : List Nat} (ho : o ∈ os) (h : Gen os p) : Gen os (mv o p) := by
  induction h with
  | one =>
    rw [mv_one_r o (hos o ho), ← mv_one_l o (hos o ho)]
    exact .step .one ho
  | @step p o' hp ho' ih =>
    rw [← mv_assoc24 (hp.mem hos) (hos o' ho')]
    exact .step ih ho'
theorem Gen.mul {os : List (List Nat)} (hos : ∀ o ∈ os, o ∈ P24) {p q : List Nat} (hp : Gen os p) (hq : Gen os q) : Gen os (mv p q) := by
  induction hq with
  | one => rw [mv_one_r p (hp.mem hos)]; exact hp
  | @step q o hq ho ih => rw [← mv_assoc24 (hq.mem hos) (hos o ho)]; exact .step ih ho

/-- q is come to from p, with a sign -/
noncomputable def Reach (up lo : List (List Nat)) (p q : List Nat) (e : Nat) : Prop := ∃ h k, Gen up h ∧ Gen lo k ∧ q = mv (mv h p) k ∧ e = oddN h
section
variable {up lo : List (List Nat)} (hu : ∀ o ∈ up, o ∈ P24) (hl : ∀ o ∈ lo, o ∈ P24)
theorem Reach.refl {p : List Nat} (hp : p ∈ P24) : Reach up lo p p 0 := ⟨_, _, .one, .one, by rw [mv_one_l p hp, mv_one_r p hp], odd_one.symm⟩
include hu hl in
theorem Reach.stepU {p q : List Nat} {e : Nat} (hp : p ∈ P24) (h : Reach up lo p q e) {u : List Nat} (hm : u ∈ up) : Reach up lo p (mv u q) ((e + oddN u) % 2) := by
  obtain ⟨h, k, gh, gk, rfl, rfl⟩ := h
  have mh := gh.mem hu
  have mk := gk.mem hl
  refine ⟨mv u h, k, gh.left hu hm, gk, ?_, ?_⟩
  · rw [← mv_assoc24 (mv_mem _ mh _ hp) mk, ← mv_assoc24 mh hp]
  · rw [odd_mv u (hu u hm) h mh, Nat.add_comm]
include hl in
theorem Reach.stepL {p q : List Nat} {e : Nat} (hp : p ∈ P24) (h : Reach up lo p q e) {l : List Nat} (hm : l ∈ lo) : Reach up lo p (mv q l) e := by
  obtain ⟨h, k, gh, gk, rfl, rfl⟩ := h
  exact ⟨h, mv k l, gh, .step gk hm, by rw [mv_assoc24 (gk.mem hl) (hl l hm)], rfl⟩
end

/-! one class, as it is come to -/
noncomputable def nbrs (up lo : List (List Nat)) (q : List Nat) : List (List Nat × Nat) := lo.map (fun l => (mv q l, 0)) ++ up.map (fun u => (mv u q, oddN u))
noncomputable def Closed (up lo D : List (List Nat)) : Prop := ∀ q ∈ D, ∀ e ∈ nbrs up lo q, e.1 ∈ D
noncomputable def pw (f : List Nat → List Nat) : Nat → List Nat → List Nat
  | 0, q => q
  | n + 1, q => f (pw f n q)
theorem pw_in {D : List (List Nat)} {f : List Nat → List Nat} (h : ∀ q ∈ D, f q ∈ D) (q : List Nat) (hq : q ∈ D) : ∀ n, pw f n q ∈ D
  | 0 => hq
  | n + 1 => h _ (pw_in h q hq n)
theorem pw_l : ∀ u ∈ P24, ∀ q ∈ P24, pw (mv u) 11 (mv u q) = q := by decide +kernel
theorem pw_r : ∀ l ∈ P24, ∀ q ∈ P24, pw (fun x => mv x l) 11 (mv q l) = q := by decide +kernel
section
variable {up lo : List (List Nat)} (hu : ∀ o ∈ up, o ∈ P24) (hl : ∀ o ∈ lo, o ∈ P24)
include hu hl in
theorem Closed.back {D : List (List Nat)} (h : Closed up lo D) {q : List Nat} (hq : q ∈ P24) {e : List Nat × Nat} (he : e ∈ nbrs up lo q) (hd : e.1 ∈ D) : q ∈ D := by
  rcases List.mem_append.mp he with he | he
  · obtain ⟨l, hl', rfl⟩ := List.mem_map.mp he
    have := pw_in (f := fun x => mv x l) (fun x hx => h x hx (mv x l, 0) (List.mem_append_left _ (List.mem_map.mpr ⟨l, hl', rfl⟩))) _ hd 11
    rwa [pw_r l (hl l hl') q hq] at this
  · obtain ⟨u, hu', rfl⟩ := List.mem_map.mp he
    have := pw_in (f := mv u) (fun x hx => h x hx (mv u x, oddN u) (List.mem_append_right _ (List.mem_map.mpr ⟨u, hu', rfl⟩))) _ hd 11
    rwa [pw_l u (hu u hu') q hq] at this
include hu hl in
theorem nbrs_mem {q : List Nat} (hq : q ∈ P24) {e : List Nat × Nat} (he : e ∈ nbrs up lo q) : e.1 ∈ P24 ∧ e.2 < 2 := by
  rcases List.mem_append.mp he with he | he
  · obtain ⟨l, hl', rfl⟩ := List.mem_map.mp he
    exact ⟨mv_mem _ hq _ (hl l hl'), by show 0 < 2; decide⟩
  · obtain ⟨u, hu', rfl⟩ := List.mem_map.mp he
    exact ⟨mv_mem _ (hu u hu') _ hq, oddN_lt u⟩
include hu hl in
theorem Reach.nbr {p q : List Nat} {s : Nat} (hp : p ∈ P24) (h : Reach up lo p q s) {e : List Nat × Nat} (he : e ∈ nbrs up lo q) : Reach up lo p e.1 ((s + e.2) % 2) := by
  have hs : s < 2 := by obtain ⟨h, k, _, _, _, rfl⟩ := h; exact oddN_lt h
  rcases List.mem_append.mp he with he | he
  · obtain ⟨l, hl', rfl⟩ := List.mem_map.mp he
    have := h.stepL hl hp hl'
    have e : (s + 0) % 2 = s := by omega
    show Reach up lo p (mv q l) ((s + 0) % 2)
    rw [e]; exact this
  · obtain ⟨u, hu', rfl⟩ := List.mem_map.mp he
    exact h.stepU hu hl hp hu'
end
theorem Reach.lt {up lo : List (List Nat)} {p q : List Nat} {s : Nat} (h : Reach up lo p q s) : s < 2 := by obtain ⟨h, k, _, _, _, rfl⟩ := h; exact oddN_lt h

structure Bfs (r : Str) (up lo D : List (List Nat)) (p0 : List Nat) (Q : List (List Nat)) (σ : List Nat → Nat) (m : List Nat) (cl : Bool) : Prop where
  nd : Q.Nodup
  sub : ∀ q ∈ Q, q ∈ P24
  out : ∀ q ∈ Q, q ∉ D
  at0 : p0 ∈ Q
  reach : ∀ q ∈ Q, Reach up lo p0 q (σ q)
  mm : m ∈ Q
  least : ∀ q ∈ Q, ¬ (wd r q).cps.toList < (wd r m).cps.toList
  clash : cl = true → ∃ q, Reach up lo p0 q 0 ∧ Reach up lo p0 q 1
theorem Bfs.start {r : Str} {up lo D : List (List Nat)} {p0 : List Nat} (hp : p0 ∈ P24) (hd : p0 ∉ D) : Bfs r up lo D p0 [p0] (fun _ => 0) p0 false where
  nd := by simp
  sub := fun q hq => by rw [List.mem_singleton.mp hq]; exact hp
  out := fun q hq => by rw [List.mem_singleton.mp hq]; exact hd
  at0 := by simp
  reach := fun q hq => by rw [List.mem_singleton.mp hq]; exact Reach.refl hp
  mm := by simp
  least := fun q hq => by rw [List.mem_singleton.mp hq]; exact List.lt_irrefl _
  clash := fun h => by cases h
theorem Bfs.len {r : Str} {up lo D : List (List Nat)} {p0 : List Nat} {Q σ m cl} (b : Bfs r up lo D p0 Q σ m cl) : Q.length ≤ 24 := P24_le b.nd b.sub
section
variable {r : Str} {up lo D : List (List Nat)} {p0 : List Nat} {Q : List (List Nat)} {σ : List Nat → Nat} {m : List Nat} {cl : Bool} (hu : ∀ o ∈ up, o ∈ P24) (hl : ∀ o ∈ lo, o ∈ P24)
include hu hl in
theorem Bfs.push (b : Bfs r up lo D p0 Q σ m cl) (hD : Closed up lo D) {q : List Nat} (hq : q ∈ Q) {e : List Nat × Nat} (he : e ∈ nbrs up lo q) (hn : e.1 ∉ Q) (m' : List Nat)
    (hm : (m' = e.1 ∧ (wd r e.1).cps.toList < (wd r m).cps.toList) ∨ (m' = m ∧ ¬ (wd r e.1).cps.toList < (wd r m).cps.toList)) :
    Bfs r up lo D p0 (Q ++ [e.1]) (fun y => if y = e.1 then (σ q + e.2) % 2 else σ y) m' cl := by
  have hp := b.sub _ b.at0
  have ho : e.1 ∉ D := fun z => b.out q hq (hD.back hu hl (b.sub q hq) he z)
  refine ⟨?_, ?_, ?_, List.mem_append_left _ b.at0, ?_, ?_, ?_, b.clash⟩
  · refine List.nodup_append.mpr ⟨b.nd, by simp, fun x hx y hy e' => ?_⟩
    rw [List.mem_singleton.mp hy] at e'
    exact hn (e' ▸ hx)
  · intro x hx
    rcases List.mem_append.mp hx with hx | hx
    · exact b.sub x hx
    · rw [List.mem_singleton.mp hx]; exact (nbrs_mem hu hl (b.sub q hq) he).1
  · intro x hx
    rcases List.mem_append.mp hx with hx | hx
    · exact b.out x hx
    · rw [List.mem_singleton.mp hx]; exact ho
  · intro x hx
    by_cases z : x = e.1
    · rw [z, if_pos rfl]; exact (b.reach q hq).nbr hu hl hp he
    · rw [if_neg z]
      rcases List.mem_append.mp hx with hx | hx
      · exact b.reach x hx
      · exact absurd (List.mem_singleton.mp hx) z
  · rcases hm with ⟨rfl, _⟩ | ⟨rfl, _⟩
    · simp
    · exact List.mem_append_left _ b.mm
  · intro x hx
    rcases hm with ⟨rfl, hlt⟩ | ⟨rfl, hge⟩
    · rcases List.mem_append.mp hx with hx | hx
      · exact fun z => b.least x hx (List.lt_trans z hlt)
      · rw [List.mem_singleton.mp hx]; exact List.lt_irrefl _
    · rcases List.mem_append.mp hx with hx | hx
      · exact b.least x hx
      · rw [List.mem_singleton.mp hx]; exact hge
include hu hl in
theorem Bfs.clashed (b : Bfs r up lo D p0 Q σ m cl) {q : List Nat} (hq : q ∈ Q) {e : List Nat × Nat} (he : e ∈ nbrs up lo q) (hn : e.1 ∈ Q) (hne : σ e.1 ≠ (σ q + e.2) % 2) : Bfs r up lo D p0 Q σ m true := by
  refine ⟨b.nd, b.sub, b.out, b.at0, b.reach, b.mm, b.least, fun _ => ⟨e.1, ?_⟩⟩
  have h1 := b.reach _ hn
  have h2 := (b.reach q hq).nbr hu hl (b.sub _ b.at0) he
  have l1 := h1.lt
  have l2 := h2.lt
  rcases Nat.lt_or_ge (σ e.1) 1 with z | z
  · have e1 : σ e.1 = 0 := by omega
    have e2 : (σ q + e.2) % 2 = 1 := by omega
    rw [e1] at h1; rw [e2] at h2; exact ⟨h1, h2⟩
  · have e1 : σ e.1 = 1 := by omega
    have e2 : (σ q + e.2) % 2 = 0 := by omega
    rw [e1] at h1; rw [e2] at h2; exact ⟨h2, h1⟩
end
/-- the symbols while a class is come to -/
noncomputable def symOf (s0 : Int) (Q : List (List Nat)) (σ : List Nat → Nat) (sym : List Nat → Int) : List Nat → Int := fun q => if q ∈ Q then s0 + 255 * (σ q : Nat) else sym q
theorem due_eq {s0 : Int} {a o : Nat} (h1 : 1 ≤ s0) (h2 : s0 ≤ 25) (ha : a < 2) (ho : o < 2) :
    (if (o : Int) = 1 then (if 256 ≤ s0 + 255 * (a : Nat) then s0 + 255 * (a : Nat) - 255 else s0 + 255 * (a : Nat) + 255) else s0 + 255 * (a : Nat)) = s0 + 255 * (((a + o) % 2 : Nat) : Int) := by
  rcases a with _ | _ | a <;> rcases o with _ | _ | o <;> first | omega | (simp; omega) | simp
/-- the least of a class, as the program and as min give it -/
theorem least_eq {r : Str} (hr : Four r) {Q : List (List Nat)} (hs : ∀ q ∈ Q, q ∈ P24) {m : List Nat} (hm : m ∈ Q) (h : ∀ q ∈ Q, ¬ (wd r q).cps.toList < (wd r m).cps.toList) {x : Str} (hx : x ∈ Q.map (wd r)) (h' : ∀ y ∈ Q.map (wd r), ¬ y.cps.toList < x.cps.toList) : wd r m = x := by
  obtain ⟨q, hq, rfl⟩ := List.mem_map.mp hx
  have h1 := h q hq
  have h2 := h' _ (List.mem_map_of_mem hm)
  have : (wd r m).cps.toList = (wd r q).cps.toList := List.le_antisymm (List.not_lt.mp h1) (List.not_lt.mp h2)
  have e : (wd r m).cps = (wd r q).cps := Array.toList_inj.mp this
  cases hh : wd r m; cases hh' : wd r q
  rw [hh, hh'] at e
  exact congrArg Str.mk e

/-- what a class is, when all of it is come to -/
noncomputable def Full (up lo Q : List (List Nat)) (σ : List Nat → Nat) (cl : Bool) : Prop := ∀ q ∈ Q, ∀ e ∈ nbrs up lo q, e.1 ∈ Q ∧ (cl = false → σ e.1 = (σ q + e.2) % 2)
noncomputable def Orb (up lo : List (List Nat)) (o : List (List Nat) × Bool) : Prop := ∃ (p0 : List Nat) (σ : List Nat → Nat), p0 ∈ o.1 ∧ (∀ q ∈ o.1, q ∈ P24) ∧ (∀ q ∈ o.1, Reach up lo p0 q (σ q)) ∧ Full up lo o.1 σ o.2 ∧ (o.2 = true → ∃ q, Reach up lo p0 q 0 ∧ Reach up lo p0 q 1)
noncomputable abbrev Orbits := List (List (List Nat) × Bool)
noncomputable def allOf (orbs : Orbits) : List (List Nat) := orbs.flatMap (·.1)
structure Orbs (up lo : List (List Nat)) (orbs : Orbits) (sym : List Nat → Int) (ms : List (List Nat)) (st : Nat) : Prop where
  each : ∀ o ∈ orbs, Orb up lo o
  nd : (allOf orbs).Nodup
  zero : ∀ p ∈ P24, p ∉ allOf orbs → sym p = 0
  some_ : ∀ p ∈ P24, p ∈ allOf orbs → sym p ≠ 0
  ms : Paired (fun (m : List Nat) (o : List (List Nat) × Bool) => m ∈ o.1) ms orbs
  st : st = (orbs.filter fun o => !o.2).length
theorem Orbs.sub {up lo orbs sym ms st} (h : Orbs up lo orbs sym ms st) : ∀ p ∈ allOf orbs, p ∈ P24 := by
  intro p hp
  obtain ⟨o, ho, hpo⟩ := List.mem_flatMap.mp hp
  obtain ⟨_, _, _, h2, _⟩ := h.each o ho
  exact h2 p hpo
theorem Orbs.closed {up lo orbs sym ms st} (h : Orbs up lo orbs sym ms st) : Closed up lo (allOf orbs) := by
  intro q hq e he
  obtain ⟨o, ho, hpo⟩ := List.mem_flatMap.mp hq
  obtain ⟨_, _, _, _, _, h4, _⟩ := h.each o ho
  exact List.mem_flatMap.mpr ⟨o, ho, (h4 q hpo e he).1⟩
theorem allOf_len : ∀ {up lo : List (List Nat)} (orbs : Orbits), (∀ o ∈ orbs, Orb up lo o) → orbs.length ≤ (allOf orbs).length
  | _, _, [], _ => Nat.zero_le _
  | up, lo, o :: r, h => by
    have ih := allOf_len r fun x hx => h x (List.mem_cons_of_mem _ hx)
    obtain ⟨p0, _, h1, _⟩ := h o List.mem_cons_self
    have : 0 < o.1.length := List.length_pos_of_mem h1
    show _ + 1 ≤ (o.1 ++ allOf r).length
    rw [List.length_append]; omega
theorem Orbs.len {up lo orbs sym ms st} (h : Orbs up lo orbs sym ms st) : orbs.length ≤ 24 ∧ ms.length = orbs.length ∧ st ≤ 24 := by
  have h1 := allOf_len orbs h.each
  have h2 := P24_le h.nd h.sub
  refine ⟨by omega, h.ms.length, ?_⟩
  rw [h.st]
  have := List.length_filter_le (fun o : List (List Nat) × Bool => !o.2) orbs
  omega
theorem Orbs.push {r : Str} {up lo orbs sym ms st} (h : Orbs up lo orbs sym ms st) {p0 : List Nat} {Q : List (List Nat)} {σ : List Nat → Nat} {m : List Nat} {cl : Bool} (b : Bfs r up lo (allOf orbs) p0 Q σ m cl) (f : Full up lo Q σ cl) {s0 : Int} (hs : 1 ≤ s0) :
    Orbs up lo (orbs ++ [(Q, cl)]) (symOf s0 Q σ sym) (ms ++ [m]) (if cl then st else st + 1) := by
  have hall : allOf (orbs ++ [(Q, cl)]) = allOf orbs ++ Q := by simp [allOf]
  refine ⟨?_, ?_, ?_, ?_, ?_, ?_⟩
  · intro o ho
    rcases List.mem_append.mp ho with ho | ho
    · exact h.each o ho
    · rw [List.mem_singleton.mp ho]
      exact ⟨p0, σ, b.at0, b.sub, b.reach, f, b.clash⟩
  · rw [hall]
    exact List.nodup_append.mpr ⟨h.nd, b.nd, fun x hx y hy e => b.out y hy (e ▸ hx)⟩
  · intro p hp hn
    rw [hall] at hn
    unfold symOf
    rw [if_neg (fun z => hn (List.mem_append_right _ z))]
    exact h.zero p hp fun z => hn (List.mem_append_left _ z)
  · intro p hp hm
    rw [hall] at hm
    unfold symOf
    by_cases hq : p ∈ Q
    · rw [if_pos hq]; omega
    · rw [if_neg hq]
      rcases List.mem_append.mp hm with z | z
      · exact h.some_ p hp z
      · exact absurd z hq
  · exact h.ms.snoc b.mm
  · rw [List.filter_append, List.length_append, ← h.st]
    cases cl <;> simp


noncomputable def lawX : { x : Value × Option Addr × FuncData × Array (Option Value) // ∀ P, (KF P).lookup 172 = some ⟨x.1, x.2.1, .func x.2.2.1, x.2.2.2⟩ } := ⟨(_, _, _, _), fun _ => rfl⟩
noncomputable def lawFd : FuncData := lawX.1.2.2.1
noncomputable def lawBodyX : { b : List Stmt // lawFd.body = .stmts b } := ⟨_, rfl⟩
noncomputable def lawBody : List Stmt := lawBodyX.1
noncomputable abbrev LawS (i : Nat) := { s : Stmt // lawBody[i]? = some s }
noncomputable def S0 : LawS 0 := ⟨_, rfl⟩
noncomputable def S1 : LawS 1 := ⟨_, rfl⟩
noncomputable def S2 : LawS 2 := ⟨_, rfl⟩
noncomputable def S3 : LawS 3 := ⟨_, rfl⟩
noncomputable def S4 : LawS 4 := ⟨_, rfl⟩
noncomputable def S5 : LawS 5 := ⟨_, rfl⟩
noncomputable def S6 : LawS 6 := ⟨_, rfl⟩
noncomputable def S7 : LawS 7 := ⟨_, rfl⟩
noncomputable def S8 : LawS 8 := ⟨_, rfl⟩
noncomputable def S9 : LawS 9 := ⟨_, rfl⟩
noncomputable def S10 : LawS 10 := ⟨_, rfl⟩
noncomputable def S11 : LawS 11 := ⟨_, rfl⟩
noncomputable def S12 : LawS 12 := ⟨_, rfl⟩
noncomputable def S13 : LawS 13 := ⟨_, rfl⟩
noncomputable def S14 : LawS 14 := ⟨_, rfl⟩
noncomputable def S15 : LawS 15 := ⟨_, rfl⟩
noncomputable def S16 : LawS 16 := ⟨_, rfl⟩
noncomputable def S17 : LawS 17 := ⟨_, rfl⟩
noncomputable def S18 : LawS 18 := ⟨_, rfl⟩
noncomputable def S19 : LawS 19 := ⟨_, rfl⟩
noncomputable def S20 : LawS 20 := ⟨_, rfl⟩
noncomputable def S21 : LawS 21 := ⟨_, rfl⟩
noncomputable def S22 : LawS 22 := ⟨_, rfl⟩
noncomputable def S23 : LawS 23 := ⟨_, rfl⟩
noncomputable def S24 : LawS 24 := ⟨_, rfl⟩
noncomputable def S25 : LawS 25 := ⟨_, rfl⟩
noncomputable def S26 : LawS 26 := ⟨_, rfl⟩
noncomputable def S27 : LawS 27 := ⟨_, rfl⟩
noncomputable def S28 : LawS 28 := ⟨_, rfl⟩
noncomputable def S29 : LawS 29 := ⟨_, rfl⟩
theorem lawBody_eq : lawBody = [S0.1, S1.1, S2.1, S3.1, S4.1, S5.1, S6.1, S7.1, S8.1, S9.1, S10.1, S11.1, S12.1, S13.1, S14.1, S15.1, S16.1, S17.1, S18.1, S19.1, S20.1, S21.1, S22.1, S23.1, S24.1, S25.1, S26.1, S27.1, S28.1, S29.1] := rfl
noncomputable abbrev lawNM : List Str := Str.ofString "script" :: Str.ofString "cells" :: Str.ofString "spot" :: Str.ofString "x" :: Str.ofString "uppers" :: Str.ofString "lowers" :: Str.ofString "figure" :: Str.ofString "number" :: Str.ofString "size" :: Str.ofString "rounds" :: Str.ofString "words" :: Str.ofString "word" ::
  Str.ofString "tables" :: Str.ofString "odd" :: Str.ofString "symbols" :: Str.ofString "names" :: Str.ofString "steady" :: Str.ofString "start" :: Str.ofString "queue" :: Str.ofString "least" :: Str.ofString "clash" :: Str.ofString "reached" :: Str.ofString "due" :: Str.ofString "numbers" :: Str.ofString "upper" :: Str.ofString "lower" ::
  Str.ofString "plain_sum" :: Str.ofString "signed_sum" :: Str.ofString "others" :: Str.ofString "told" :: Str.ofString "often" :: Str.ofString "other" :: Str.ofString "times" :: Str.ofString "weight" :: Str.ofString "runs" :: Str.ofString "left" :: Str.ofString "alike" :: Str.ofString "both" :: []
/-- what the law's frame hangs on, but for the names that are looked at -/
structure LX where
  w : World
  A : Around
  L : Addr
  s : Shared
  old : Str → Option Value
noncomputable abbrev LC (X : LX) (nm : List Str) : Cx := { w := X.w, A := X.A, env := callEnvC lawFd X.L 172, h₀ := X.s.heap, s₀ := X.s, nm := nm, ro := false, old := X.old }
noncomputable abbrev LX.at (X : LX) (old : Str → Option Value) : LX := { X with old := old }
theorem okL {X : LX} {nm nm' : List Str} {old : Str → Option Value} (G : Ok (LC X nm)) (nd : nm'.Nodup) : Ok (LC (X.at old) nm') := ⟨G.han, G.top, G.glo, G.blt, G.kind, nd⟩
/-- a part of the law's body, in a frame of fewer names -/
theorem AW.narL {α : Type} {X : LX} {nm nm' : List Str} {t : Env → Sem α} {vals vals' : Vals} {news : Led} {Φ : α → Vals → Led → Prop} (hs : ∀ x ∈ nm', x ∈ nm) (hv : LookAll nm vals nm' vals')
    (h : ∀ old, AW (LC (X.at old) nm') (t (LC (X.at old) nm').env) vals' news fun a v n => ∃ V, Back nm' v nm vals V ∧ Φ a V n) : AW (LC X nm) (t (LC X nm).env) vals news Φ :=
  AW.nar (c := LC X nm) hs hv h
/-- a statement of the law's body in a frame of fewer names, then what follows -/
theorem AW.stL {X : LX} {nm : List Str} (nm' : List Str) {st : Stmt} {rest : List Stmt} {vals vals' : Vals} {news : Led} {Φ : Flow → Vals → Led → Prop} {Ψ : Vals → Led → Prop} (hs : ∀ x ∈ nm', x ∈ nm) (hv : LookAll nm vals nm' vals')
    (h : ∀ old, AW (LC (X.at old) nm') (exec st (LC (X.at old) nm').env) vals' news fun f v n => f = .next ∧ Ψ v n)
    (k : ∀ v n, Ψ v n → ∃ V, Back nm' v nm vals V ∧ AW (LC X nm) (execs rest (LC X nm).env) V n Φ) : AW (LC X nm) (execs (st :: rest) (LC X nm).env) vals news Φ := by
  refine AW.stmt (Ψ := fun V n => AW (LC X nm) (execs rest (LC X nm).env) V n Φ) (AW.narL (t := exec st) hs hv fun old => (h old).mono fun f v n q => ?_) fun _ _ q => q
  exact Exists.elim (k v n q.2) fun V q' => ⟨V, q'.1, q.1, q'.2⟩


noncomputable def IsI (v : Value) (z : Int) : Prop := ∃ t, v = .int z t
theorem psetI {vs : List Value} {ns : List Int} (h : Paired IsI vs ns) : ∀ (i : Nat) (n : Int) (t : Tok), Paired IsI (vs.set i (.int n t)) (ns.set i n) := by
  induction h with
  | nil => intro i n t; exact .nil
  | cons h r ih =>
    intro i n t
    cases i with
    | zero => exact .cons ⟨t, rfl⟩ r
    | succ i => exact .cons h (ih i n t)
theorem ptake {α β : Type} {F : α → β → Prop} {l : List α} {m : List β} (h : Paired F l m) : ∀ k : Nat, Paired F (l.take k) (m.take k) := by
  induction h with
  | nil => intro k; simp; exact .nil
  | cons h _ ih =>
    intro k
    cases k with
    | zero => exact .nil
    | succ k => exact .cons h (ih k)
theorem mem_set_nn {cs : List Int} (h : ∀ z ∈ cs, (0 : Int) ≤ z) (i : Nat) {x : Int} (hx : 0 ≤ x) : ∀ z ∈ cs.set i x, (0 : Int) ≤ z := by
  intro z hz
  rcases List.mem_or_eq_of_mem_set hz with q | q
  · exact h z q
  · rw [q]; exact hx

theorem AW.tailLR {c : Cx} {vals : Vals} {news : Led} {value slice : Expr} {a : Addr} {o : Obj} {i : Value} {ops : List Value} {Φ : Value → Vals → Led → Prop} (hm : HasL c news (a, .raw o)) (hc : o.cls = .type "list") (hs : subscripted slice false (.ref a) i = operate ops (getItem (.ref a) i)) (h : AW c (getItem (.ref a) i) vals news Φ) :
    AW c (subscriptTail value slice (.ref a) i) vals news Φ := by
  intro g s R
  obtain ⟨o', ho, e, _⟩ := R.has hm
  have e : o' = o := e
  subst e
  exact tail_any (T := "list") ⟨_, ho, hc⟩ PySem.slot_list_getitem.lookup (h g s R) hs
theorem AW.getLSR {c : Cx} {vals : Vals} {news : Led} {l a : Addr} {o : Obj} {its : List Value} {nn k : Nat} {u : Tok} {Φ : Value → Vals → Led → Prop} (G : Ok c) (hl : HasL c news (l, .raw o)) (hc : o.cls = .type "list") (hd : o.data = .seq its.toArray nn) (hm : HasL c news (a, .raw (sliceObj .none (.int k u)))) (hz : its.length ≤ sizeLine) (h : ∀ r, Φ (.ref r) vals ((r, .list (its.take k)) :: news)) :
    AW c (getItem (.ref l) (.ref a)) vals news Φ := by
  intro g s R
  obtain ⟨o1, ho, e, _⟩ := R.has hl
  have e : o1 = o := e
  subst e
  obtain ⟨o', ho', rfl, _⟩ := R.has hm
  refine wpAny_getItem_list_slice ⟨_, ho, hc, nn, hd⟩ ⟨_, ho', rfl, rfl⟩ .none (.int _ _) .none (by simp) ⟨vals, _, R.new G.top _ (.list (its.take k)) rfl ⟨0, ?_⟩, h _⟩ (by rw [List.size_toArray]; exact hz)
  rw [slicePick_plain]
  have e : clipAt its.toArray.size (k : Int) = min k its.length := by rw [clipAt_nat]; simp
  simp only [Option.elim_none, Option.elim_some, e]
  simp
inductive C1 (aS aC : Addr) (N : Led) : Vals → Led → Prop where
  | mk (z1 z2 : Option Value) (cv : List Value) (cs : List Int) (hcv : Paired IsI cv cs) (h5 : cs.length = 5) (h0 : ∀ z ∈ cs, (0 : Int) ≤ z) : C1 aS aC N [some (.ref aS), some (.ref aC), z1, z2] ((aC, .list cv) :: N)
inductive C1' (aS aC r : Addr) (l : List Value) (N : Led) : Vals → Led → Prop where
  | mk (z1 z2 : Option Value) (cv : List Value) (cs : List Int) (hcv : Paired IsI cv cs) (h5 : cs.length = 5) (h0 : ∀ z ∈ cs, (0 : Int) ≤ z) : C1' aS aC r l N [some (.ref aS), some (.ref aC), z1, z2] ((r, .list l) :: (aC, .list cv) :: N)
theorem ph1 {X : LX} (G : Ok (LC X (Str.ofString "script" :: Str.ofString "cells" :: Str.ofString "spot" :: Str.ofString "x" :: []))) (hA : Room X.A 9) (aS aC : Addr) (sv : List Value) (ns : List Int) (hsv : Paired IsI sv ns) (hns : ns.length ≤ 63) (o : Obj) (nn : Nat) (hoc : o.cls = .type "list") (hod : o.data = .seq sv.toArray nn) (hSc : Has X.w X.s.heap (aS, .raw o)) (t0 t1 t2 t3 t4 : Tok) (N : Led) (z1 z2 : Option Value) :
    AW (LC X (Str.ofString "script" :: Str.ofString "cells" :: Str.ofString "spot" :: Str.ofString "x" :: [])) (exec S1.1 (LC X (Str.ofString "script" :: Str.ofString "cells" :: Str.ofString "spot" :: Str.ofString "x" :: [])).env) (some (.ref aS) :: some (.ref aC) :: z1 :: z2 :: []) ((aC, .list [.int 17 t0, .int 2 t1, .int 22 t2, .int 4 t3, .int 5 t4]) :: N) (fun f v n => f = .next ∧ C1 aS aC N v n) := by
  have hsl := hsv.length
  walk_at "hide"
  walk_at "wkh"
  unfold S1
  dsimp only
  with_reducible refine' AW.forEnum G rfl ?k2 ?_
  case k2 => intro _; rfl
  repeat walk_at "aw"
  intro a1
  refine AW.tailLR (.inr hSc) hoc (by with_unfolding_all rfl) ?_
  refine AW.getLSR (k := 15) G (.inr hSc) hoc hod (.inl List.mem_cons_self) (by rw [sizeLine_eq]; omega) fun r => ?_
  refine AW.drop (.cons_cons _ (.cons _ (.refl _))) ?_
  repeat walk_at "aw"
  refine AW.enumL (by walk_at "has") fun e it oe oi hE hI hne => ?_
  refine ⟨e, it, oe, oi, r, sv.take 15, _, rfl, rfl, hE, hI, hne, fun _ => C1' aS aC r (sv.take 15) N, ?_, ?_, ?_, ?_⟩
  · exact ⟨_, _, _, [17, 2, 22, 4, 5], .cons ⟨_, rfl⟩ (.cons ⟨_, rfl⟩ (.cons ⟨_, rfl⟩ (.cons ⟨_, rfl⟩ (.cons ⟨_, rfl⟩ .nil)))), rfl, by decide⟩
  · rintro i v₂ n₂ ⟨z1, z2, cv, cs, _⟩
    walk_at "has"
  · rintro i hPhi0 hPhi a t x v₂ n₂ hx ⟨z1, z2, cv, cs, hcv, hcs, hc0⟩
    obtain ⟨z, hz, tz, rfl⟩ := pgetL (ptake hsv 15) _ _ hx
    have hcl := hcv.length
    obtain ⟨m1, m2⟩ := fmod_small (a := (i : Int)) (b := 5) (by decide)
    obtain ⟨m3, m4⟩ := fmod_small (a := z) (b := 1000000) (by decide)
    obtain ⟨k, hk⟩ : ∃ k, cs[((i : Int).fmod 5).toNat]? = some k := ⟨_, List.getElem?_eq_getElem (by omega)⟩
    have hk0 := hc0 k (List.mem_of_getElem? hk)
    obtain ⟨y, hy, ty, rfl⟩ := pget hcv _ _ hk
    walk_at "unpack2"
    refine AW.drop (.cons _ (.refl _)) ?_
    repeat walk_at "aw"
    with_reducible refine' AW.augSub ?k1 ?_
    case k1 => intro _ _ _; rfl
    repeat walk_at "aw"
    refine AW.modI (by decide) fun _ => ?_
    refine AW.getL (by walk_at "has") m1 (by omega) hy ?_
    repeat walk_at "aw"
    refine AW.powI (by decide) (by decide) fun _ => ?_
    refine AW.modI (by decide) fun _ => ?_
    repeat walk_at "aw"
    refine AW.setL (by walk_at "mem") (by walk_at "upd") m1 (by omega) (by rw [sizeLine_eq]; omega) ?_
    repeat walk_at "aw"
    exact ⟨_, _, _, _, psetI hcv _ _ _, by rw [List.length_set]; exact hcs, mem_set_nn hc0 _ (by
      have e : (10 : Int) ^ (6 : Int).toNat = 1000000 := by decide
      rw [e]; omega)⟩
  · rintro v₂ n₂ ⟨z1, z2, cv, cs, h1, h2, h3⟩
    walk_at "leaf"
    exact ⟨_, _, .refl _, .cons _ (.refl _), rfl, _, _, cv, cs, h1, h2, h3⟩

theorem OrdL.mono {need need' : Led} {orefs : List Value} {os : List (List Nat)} (h : OrdL need orefs os) (k : ∀ p ∈ need, p ∈ need') : OrdL need' orefs os := by
  unfold OrdL at *
  induction h with
  | nil => exact .nil
  | cons h _ ih => exact .cons (let ⟨a, vs, e, m, q⟩ := h; ⟨a, vs, e, k _ m, q⟩) ih
theorem OrdL.snoc {need : Led} {orefs : List Value} {os : List (List Nat)} (h : OrdL need orefs os) {a : Addr} {vs : List Value} {p : List Nat} (hm : (a, .list vs) ∈ need) (hv : Paired IsN vs p) : OrdL need (orefs ++ [.ref a]) (os ++ [p]) := by
  unfold OrdL at *
  exact h.snoc ⟨a, vs, rfl, hm, hv⟩
/-- the four cells, then what does not change any more -/
structure Orders (O : Led) (refs : List Value) (os : List (List Nat)) : Prop where
  l : OrdL O refs os
  m : ∀ p ∈ os, p ∈ P24
  n : os.length ≤ 2
theorem Orders.mono {O O' : Led} {refs : List Value} {os : List (List Nat)} (h : Orders O refs os) (k : ∀ p ∈ O, p ∈ O') : Orders O' refs os := ⟨h.l.mono k, h.m, h.n⟩

theorem OrdL.snocM {M : Led} {orefs : List Value} {os : List (List Nat)} (h : Orders M orefs os) {a : Addr} {vs : List Value} {p : List Nat} (hm : (a, .list vs) ∈ M) (hv : Paired IsN vs p) (hp : p ∈ P24) (h1 : os.length ≤ 1) : Orders M (orefs ++ [.ref a]) (os ++ [p]) :=
  ⟨h.l.snoc hm hv, fun q hq => (List.mem_append.mp hq).elim (h.m q) fun hq => by rw [List.mem_singleton.mp hq]; exact hp, by rw [List.length_append]; exact Nat.add_le_add_right h1 1⟩
inductive O2 (aC : Addr) (cv : List Value) (N : Led) : Vals → Led → Prop where
  | mk (aU a : Addr) (vs : List Value) (p : List Nat) (hv : Paired IsN vs p) (hp : p ∈ P24) : O2 aC cv N [some (.ref aC), some (.ref aU)] ((aU, .list [.ref a]) :: (a, .list vs) :: (aC, .list cv) :: N)
inductive O4 (aC aU : Addr) (cv urefs : List Value) (up : List (List Nat)) (N : Led) : Vals → Led → Prop where
  | mk (urefs' : List Value) (up' : List (List Nat)) (T : Led) (h : ∀ M : Led, (∀ q ∈ T, q ∈ M) → Orders M urefs up → Orders M urefs' up') : O4 aC aU cv urefs up N [some (.ref aC), some (.ref aU)] (T ++ (aU, .list urefs') :: (aC, .list cv) :: N)
theorem ph2 {X : LX} (G : Ok (LC X (Str.ofString "cells" :: Str.ofString "uppers" :: []))) (hA : Room X.A 9) (aC : Addr) (cv : List Value) (cs : List Int) (hcv : Paired IsI cv cs) (h5 : cs.length = 5) (h0 : ∀ z ∈ cs, (0 : Int) ≤ z) (N : Led) :
    AW (LC X (Str.ofString "cells" :: Str.ofString "uppers" :: [])) (exec S2.1 (LC X (Str.ofString "cells" :: Str.ofString "uppers" :: [])).env) [some (.ref aC), none] ((aC, .list cv) :: N) (fun f v n => f = .next ∧ O2 aC cv N v n) := by
  walk_at "hide"
  unfold S2
  dsimp only
  obtain ⟨k, hk⟩ : ∃ k, cs[(0 : Int).toNat]? = some k := ⟨_, List.getElem?_eq_getElem (by rw [h5]; decide)⟩
  obtain ⟨y, hy, ty, rfl⟩ := pget hcv _ _ hk
  repeat walk_at "aw"
  walk_at "tailL"
  refine AW.getL (by walk_at "has") (by decide) (by decide) hy ?_
  repeat walk_at "aw"
  refine AW.callS (order_spec X.w k ty (h0 k (List.mem_of_getElem? hk))) (hA.less (by decide)) G (by intro p hp; cases hp) ?_
  rintro v tl ⟨a, vs, p, rfl, rfl, hv, hp⟩
  repeat walk_at "aw"
  exact ⟨rfl, _, a, vs, p, hv, P24_of_perm hp⟩
theorem ph3 {X : LX} (G : Ok (LC X (Str.ofString "cells" :: Str.ofString "lowers" :: []))) (hA : Room X.A 9) (aC : Addr) (cv : List Value) (cs : List Int) (hcv : Paired IsI cv cs) (h5 : cs.length = 5) (h0 : ∀ z ∈ cs, (0 : Int) ≤ z) (N : Led) :
    AW (LC X (Str.ofString "cells" :: Str.ofString "lowers" :: [])) (exec S3.1 (LC X (Str.ofString "cells" :: Str.ofString "lowers" :: [])).env) [some (.ref aC), none] ((aC, .list cv) :: N) (fun f v n => f = .next ∧ O2 aC cv N v n) := by
  walk_at "hide"
  unfold S3
  dsimp only
  obtain ⟨k, hk⟩ : ∃ k, cs[(2 : Int).toNat]? = some k := ⟨_, List.getElem?_eq_getElem (by rw [h5]; decide)⟩
  obtain ⟨y, hy, ty, rfl⟩ := pget hcv _ _ hk
  repeat walk_at "aw"
  walk_at "tailL"
  refine AW.getL (by walk_at "has") (by decide) (by decide) hy ?_
  repeat walk_at "aw"
  refine AW.callS (order_spec X.w k ty (h0 k (List.mem_of_getElem? hk))) (hA.less (by decide)) G (by intro p hp; cases hp) ?_
  rintro v tl ⟨a, vs, p, rfl, rfl, hv, hp⟩
  repeat walk_at "aw"
  exact ⟨rfl, _, a, vs, p, hv, P24_of_perm hp⟩
theorem ph4 {X : LX} (G : Ok (LC X (Str.ofString "cells" :: Str.ofString "uppers" :: []))) (hA : Room X.A 9) (aC aU : Addr) (cv : List Value) (cs : List Int) (hcv : Paired IsI cv cs) (h5 : cs.length = 5) (h0 : ∀ z ∈ cs, (0 : Int) ≤ z) (urefs : List Value) (up : List (List Nat)) (hul : urefs.length = up.length) (hu1 : up.length ≤ 1) (N : Led) :
    AW (LC X (Str.ofString "cells" :: Str.ofString "uppers" :: [])) (exec S4.1 (LC X (Str.ofString "cells" :: Str.ofString "uppers" :: [])).env) [some (.ref aC), some (.ref aU)] ((aU, .list urefs) :: (aC, .list cv) :: N) (fun f v n => f = .next ∧ O4 aC aU cv urefs up N v n) := by
  walk_at "hide"
  unfold S4
  dsimp only
  obtain ⟨k, hk⟩ : ∃ k, cs[(1 : Int).toNat]? = some k := ⟨_, List.getElem?_eq_getElem (by rw [h5]; decide)⟩
  obtain ⟨y, hy, ty, rfl⟩ := pget hcv _ _ hk
  repeat walk_at "aw"
  walk_at "tailL"
  refine AW.getL (by walk_at "has") (by decide) (by decide) hy ?_
  repeat walk_at "aw"
  refine AW.modI (by decide) fun _ => ?_
  repeat walk_at "aw"
  by_cases hb : (k.fmod 3 == 0) = true
  · refine ifT hb ?_
    obtain ⟨k', hk'⟩ : ∃ k, cs[(3 : Int).toNat]? = some k := ⟨_, List.getElem?_eq_getElem (by rw [h5]; decide)⟩
    obtain ⟨y, hy', ty', rfl⟩ := pget hcv _ _ hk'
    repeat walk_at "aw"
    walk_at "m_append"
    repeat walk_at "aw"
    refine ⟨isL (by walk_at "has"), ?_⟩
    repeat walk_at "aw"
    walk_at "tailL"
    refine AW.getL (by walk_at "has") (by decide) (by decide) hy' ?_
    repeat walk_at "aw"
    refine AW.callS (order_spec X.w k' ty' (h0 k' (List.mem_of_getElem? hk'))) (hA.less (by decide)) G (by intro p hp; cases hp) ?_
    rintro v tl ⟨a, vs, p, rfl, rfl, hv, hp⟩
    repeat walk_at "aw"
    refine AW.append (news' := (a, .list vs) :: (aU, .list (urefs ++ [.ref a])) :: (aC, .list cv) :: N) (.tail _ (.head _)) (.there .here) (by rw [hul, sizeLine_eq]; exact Nat.le_trans hu1 (by decide)) ?_
    refine ⟨rfl, ?_⟩
    repeat walk_at "aw"
    exact ⟨rfl, _, up ++ [p], [(a, .list vs)], fun M hM hO => OrdL.snocM hO (hM _ List.mem_cons_self) hv (P24_of_perm hp) hu1⟩
  · refine ifN hb ?_
    repeat walk_at "aw"
    exact ⟨rfl, urefs, up, [], fun _ _ q => q⟩
theorem ph5 {X : LX} (G : Ok (LC X (Str.ofString "cells" :: Str.ofString "lowers" :: []))) (hA : Room X.A 9) (aC aU : Addr) (cv : List Value) (cs : List Int) (hcv : Paired IsI cv cs) (h5 : cs.length = 5) (h0 : ∀ z ∈ cs, (0 : Int) ≤ z) (urefs : List Value) (up : List (List Nat)) (hul : urefs.length = up.length) (hu1 : up.length ≤ 1) (N : Led) :
    AW (LC X (Str.ofString "cells" :: Str.ofString "lowers" :: [])) (exec S5.1 (LC X (Str.ofString "cells" :: Str.ofString "lowers" :: [])).env) [some (.ref aC), some (.ref aU)] ((aU, .list urefs) :: (aC, .list cv) :: N) (fun f v n => f = .next ∧ O4 aC aU cv urefs up N v n) := by
  walk_at "hide"
  unfold S5
  dsimp only
  obtain ⟨k, hk⟩ : ∃ k, cs[(1 : Int).toNat]? = some k := ⟨_, List.getElem?_eq_getElem (by rw [h5]; decide)⟩
  obtain ⟨y, hy, ty, rfl⟩ := pget hcv _ _ hk
  repeat walk_at "aw"
  walk_at "tailL"
  refine AW.getL (by walk_at "has") (by decide) (by decide) hy ?_
  repeat walk_at "aw"
  refine AW.modI (by decide) fun _ => ?_
  repeat walk_at "aw"
  by_cases hb : (k.fmod 3 == 1) = true
  · refine ifT hb ?_
    obtain ⟨k', hk'⟩ : ∃ k, cs[(3 : Int).toNat]? = some k := ⟨_, List.getElem?_eq_getElem (by rw [h5]; decide)⟩
    obtain ⟨y, hy', ty', rfl⟩ := pget hcv _ _ hk'
    repeat walk_at "aw"
    walk_at "m_append"
    repeat walk_at "aw"
    refine ⟨isL (by walk_at "has"), ?_⟩
    repeat walk_at "aw"
    walk_at "tailL"
    refine AW.getL (by walk_at "has") (by decide) (by decide) hy' ?_
    repeat walk_at "aw"
    refine AW.callS (order_spec X.w k' ty' (h0 k' (List.mem_of_getElem? hk'))) (hA.less (by decide)) G (by intro p hp; cases hp) ?_
    rintro v tl ⟨a, vs, p, rfl, rfl, hv, hp⟩
    repeat walk_at "aw"
    refine AW.append (news' := (a, .list vs) :: (aU, .list (urefs ++ [.ref a])) :: (aC, .list cv) :: N) (.tail _ (.head _)) (.there .here) (by rw [hul, sizeLine_eq]; exact Nat.le_trans hu1 (by decide)) ?_
    refine ⟨rfl, ?_⟩
    repeat walk_at "aw"
    exact ⟨rfl, _, up ++ [p], [(a, .list vs)], fun M hM hO => OrdL.snocM hO (hM _ List.mem_cons_self) hv (P24_of_perm hp) hu1⟩
  · refine ifN hb ?_
    repeat walk_at "aw"
    exact ⟨rfl, urefs, up, [], fun _ _ q => q⟩

noncomputable def numD (ds : List Nat) : Nat := ds.foldl (fun n d => n * 16 + d) 0
theorem numD_snoc (ds : List Nat) (d : Nat) : numD (ds ++ [d]) = numD ds * 16 + d := by simp [numD]
structure Digs (ds : List Nat) : Prop where
  len : ds.length = 4
  inc : ds.Pairwise (· < ·)
  bd : ∀ d ∈ ds, 1 ≤ d ∧ d ≤ 13
theorem Digs.four {ds : List Nat} (h : Digs ds) : ∃ a b c d : Nat, ds = [a, b, c, d] ∧ 1 ≤ a ∧ a < b ∧ b < c ∧ c < d ∧ d ≤ 13 := by
  obtain ⟨h1, h2, h3⟩ := h
  match ds, h1, h2, h3 with
  | [a, b, c, d], _, h2, h3 =>
    have q1 := h3 a (by simp)
    have q2 := h3 d (by simp)
    simp only [List.pairwise_cons, List.mem_cons, List.not_mem_nil, or_false, forall_eq_or_imp, forall_eq] at h2
    exact ⟨a, b, c, d, rfl, q1.1, h2.1.1, h2.2.1.1, h2.2.2.1, q2.2⟩
theorem hexa_four {a b c d : Nat} (ha : 1 ≤ a) (ha' : a < 16) (hb : b < 16) (hc : c < 16) (hd : d < 16) : hexa (((a * 16 + b) * 16 + c) * 16 + d) = [a, b, c, d] := by
  rw [hexa_step _ (by omega), show (((a * 16 + b) * 16 + c) * 16 + d) / 16 = (a * 16 + b) * 16 + c from by omega, show (((a * 16 + b) * 16 + c) * 16 + d) % 16 = d from by omega,
    hexa_step _ (by omega), show ((a * 16 + b) * 16 + c) / 16 = a * 16 + b from by omega, show ((a * 16 + b) * 16 + c) % 16 = c from by omega,
    hexa_step _ (by omega), show (a * 16 + b) / 16 = a from by omega, show (a * 16 + b) % 16 = b from by omega,
    hexa_step _ (by omega), show a / 16 = 0 from by omega, show a % 16 = a from by omega, hexa_zero]; rfl
theorem numD_four (a b c d : Nat) : numD [a, b, c, d] = ((a * 16 + b) * 16 + c) * 16 + d := by simp [numD]
theorem Digs.hexa {ds : List Nat} (h : Digs ds) : hexa (numD ds) = ds := by
  obtain ⟨a, b, c, d, rfl, h1, h2, h3, h4, h5⟩ := h.four
  rw [numD_four, hexa_four h1 (by omega) (by omega) (by omega) (by omega)]
noncomputable def rdS (ds : List Nat) : Str := ⟨(ds.map (65 + ·)).toArray⟩
theorem Digs.numS {ds : List Nat} (h : Digs ds) : numS (rdS ds).cps.toList = (numD ds : Nat) := by
  obtain ⟨a, b, c, d, rfl, h1, h2, h3, h4, h5⟩ := h.four
  rw [numD_four]
  show Mine.numS ([65 + a, 65 + b, 65 + c, 65 + d]) = _
  simp [Mine.numS]
  omega
theorem Digs.four_ {ds : List Nat} (h : Digs ds) : Four (rdS ds) := by
  obtain ⟨a, b, c, d, rfl, h1, h2, h3, h4, h5⟩ := h.four
  refine ⟨rfl, fun i j hi hj e => ?_⟩
  have g : ∀ i, i < 4 → (rdS [a, b, c, d]).cps.getD i 0 = 65 + [a, b, c, d].getD i 0 := by
    intro i hi
    rcases i with _ | _ | _ | _ | i <;> first | rfl | omega
  rw [g i hi, g j hj] at e
  rcases i with _ | _ | _ | _ | i <;> rcases j with _ | _ | _ | _ | j <;> first | rfl | (simp at e; omega) | omega

inductive P6 (aC : Addr) (k : Int) (N : Led) : Vals → Led → Prop where
  | mk (t : Tok) : P6 aC k N [some (.ref aC), some (.int (1 + k.fmod 4) t)] N
theorem ph6 {X : LX} (G : Ok (LC X (Str.ofString "cells" :: Str.ofString "figure" :: []))) (hA : Room X.A 9) (aC : Addr) (cv : List Value) (cs : List Int) (hcv : Paired IsI cv cs) (k : Int) (hk : cs[4]? = some k) (N : Led) (hC : (aC, .list cv) ∈ N) :
    AW (LC X (Str.ofString "cells" :: Str.ofString "figure" :: [])) (exec S6.1 (LC X (Str.ofString "cells" :: Str.ofString "figure" :: [])).env) [some (.ref aC), none] N (fun f v n => f = .next ∧ P6 aC k N v n) := by
  walk_at "hide"
  unfold S6
  dsimp only
  obtain ⟨y, hy, ty, rfl⟩ := pget hcv _ _ hk
  repeat walk_at "aw"
  refine AW.tailL (.inl hC) (by with_unfolding_all rfl) ?_
  refine AW.getL (.inl hC) (by decide) (by decide) hy ?_
  repeat walk_at "aw"
  refine AW.modI (by decide) fun _ => ?_
  repeat walk_at "aw"
  exact ⟨rfl, ⟨_⟩⟩
theorem ph7 {X : LX} (G : Ok (LC X (Str.ofString "figure" :: Str.ofString "number" :: []))) (hA : Room X.A 9) (v : Value) (N : Led) :
    AW (LC X (Str.ofString "figure" :: Str.ofString "number" :: [])) (exec S7.1 (LC X (Str.ofString "figure" :: Str.ofString "number" :: [])).env) [some v, none] N (fun f v' n => f = .next ∧ v' = [some v, some v] ∧ n = N) := by
  unfold S7
  dsimp only
  repeat walk_at "aw"
  exact ⟨rfl, rfl, rfl⟩
inductive P8 (aC : Addr) (N : Led) : Vals → Led → Prop where
  | mk (ds : List Nat) (t : Tok) (z1 z2 : Option Value) (hd : Digs ds) : P8 aC N [some (.ref aC), z1, some (.int (numD ds : Nat) t), z2] N
inductive J8 (aC : Addr) (q : Addr × MO) (N : Led) (i : Nat) : Vals → Led → Prop where
  | mk (pre : List Nat) (f : Nat) (t6 t7 : Tok) (z : Option Value) (h1 : pre.length = i) (h2 : (pre ++ [f]).Pairwise (· < ·)) (h3 : ∀ d ∈ pre ++ [f], 1 ≤ d ∧ d ≤ f) (h4 : f ≤ 4 + 3 * i) :
    J8 aC q N i [some (.ref aC), some (.int (f : Nat) t6), some (.int (numD (pre ++ [f]) : Nat) t7), z] (q :: N)
theorem J8.next {aC : Addr} {q : Addr × MO} {N : Led} {i f : Nat} {pre : List Nat} (h1 : pre.length = i) (h2 : (pre ++ [f]).Pairwise (· < ·)) (h3 : ∀ d ∈ pre ++ [f], 1 ≤ d ∧ d ≤ f) (h4 : f ≤ 4 + 3 * i) {m : Int} (m0 : 0 ≤ m) (m1 : m < 3) (t6 t7 : Tok) (z : Option Value) :
    J8 aC q N (i + 1) [some (.ref aC), some (.int ((f : Int) + 1 + m) t6), some (.int (((numD (pre ++ [f]) : Nat) : Int) * 16 + ((f : Int) + 1 + m)) t7), z] (q :: N) := by
  obtain ⟨k, rfl⟩ : ∃ k : Nat, m = k := ⟨m.toNat, by omega⟩
  have e : (f : Int) + 1 + (k : Int) = ((f + 1 + k : Nat) : Int) := by omega
  have e2 : ((numD (pre ++ [f]) : Nat) : Int) * 16 + ((f + 1 + k : Nat) : Int) = ((numD (pre ++ [f] ++ [f + 1 + k]) : Nat) : Int) := by rw [numD_snoc (pre ++ [f])]; omega
  rw [e, e2]
  refine ⟨pre ++ [f], f + 1 + k, t6, t7, z, by rw [List.length_append, h1]; rfl, List.pairwise_append.mpr ⟨h2, List.pairwise_singleton _ _, fun a ha b hb => ?_⟩, fun d hd => ?_, by omega⟩
  · rw [List.mem_singleton.mp hb]
    have := (h3 a ha).2; omega
  · rcases List.mem_append.mp hd with hd | hd
    · have := h3 d hd; omega
    · rw [List.mem_singleton.mp hd]; omega
theorem J8.zero (aC : Addr) (q : Addr × MO) (N : Led) {m : Int} (m0 : 0 ≤ m) (m1 : m < 4) (t6 t7 : Tok) (z : Option Value) : J8 aC q N 0 [some (.ref aC), some (.int (1 + m) t6), some (.int (1 + m) t7), z] (q :: N) := by
  obtain ⟨k, rfl⟩ : ∃ k : Nat, m = k := ⟨m.toNat, by omega⟩
  have h := J8.mk (aC := aC) (q := q) (N := N) (i := 0) [] (1 + k) t6 t7 z rfl (by simp) (by simp) (by omega)
  have e2 : numD ([] ++ [1 + k]) = 1 + k := by simp [numD]
  rw [e2] at h
  have e : (((1 + k : Nat)) : Int) = 1 + (k : Int) := by omega
  rw [e] at h
  exact h
theorem ph8 {X : LX} (G : Ok (LC X (Str.ofString "cells" :: Str.ofString "figure" :: Str.ofString "number" :: Str.ofString "size" :: []))) (hA : Room X.A 9) (aC : Addr) (cv : List Value) (cs : List Int) (hcv : Paired IsI cv cs) (k : Int) (hk : cs[4]? = some k) (hk0 : 0 ≤ k) (t6 t7 : Tok) (N : Led) (hC : (aC, .list cv) ∈ N) :
    AW (LC X (Str.ofString "cells" :: Str.ofString "figure" :: Str.ofString "number" :: Str.ofString "size" :: [])) (exec S8.1 (LC X (Str.ofString "cells" :: Str.ofString "figure" :: Str.ofString "number" :: Str.ofString "size" :: [])).env) [some (.ref aC), some (.int (1 + k.fmod 4) t6), some (.int (1 + k.fmod 4) t7), none] N (fun f v n => f = .next ∧ P8 aC N v n) := by
  obtain ⟨y, hy, ty, rfl⟩ := pget hcv _ _ hk
  obtain ⟨m1, m2⟩ := fmod_small (a := k) (b := 4) (by decide)
  walk_at "hide"
  walk_at "wkh"
  unfold S8
  dsimp only
  walk_at "for"
  repeat walk_at "aw"
  rename_i ta tb tc aT
  refine ⟨[(aT, .tup [.int 4 ta, .int 12 tb, .int 36 tc])], 3, _, J8 aC _ N, starts_tuple, ?_, J8.zero _ _ _ m1 m2 _ _ _, ?_, ?_, ?_⟩
  · walk_at "one"
  · rintro i v₂ n₂ ⟨pre, f, t6, t7, z, _⟩
    walk_at "one"
  · rintro i hPhi0 hPhi v v₂ n₂ hi hv ⟨pre, f, t6, t7, z, h1, h2, h3, h4⟩
    obtain ⟨sz, ts, hs0, hs1, rfl⟩ : ∃ (sz : Int) (ts : Tok), 0 < sz ∧ sz < 100 ∧ v = .int sz ts := by
      rcases i with _ | _ | _ | i <;> simp at hv <;> first | exact ⟨_, _, by decide, by decide, hv.symm⟩ | omega
    repeat walk_at "aw"
    refine AW.tailL (.inl (.tail _ hC)) (by with_unfolding_all rfl) ?_
    refine AW.getL (.inl (.tail _ hC)) (by decide) (by decide) hy ?_
    repeat walk_at "aw"
    refine AW.divI (Int.ne_of_gt hs0) (by omega) fun _ => ?_
    repeat walk_at "aw"
    refine AW.modI (by decide) fun _ => ?_
    repeat walk_at "aw"
    refine AW.mulS (by decide) fun _ => ?_
    repeat walk_at "aw"
    obtain ⟨q1, q2⟩ := fmod_small (a := k.fdiv sz) (b := 3) (by decide)
    exact J8.next h1 h2 h3 h4 q1 q2 _ _ _
  · rintro v₂ n₂ ⟨pre, f, t6, t7, z, h1, h2, h3, h4⟩
    walk_at "leaf"
    exact ⟨_, _, .refl _, .cons _ (.refl _), rfl, _, _, _, _, by rw [List.length_append, h1]; rfl, h2, fun d hd => ⟨(h3 d hd).1, Nat.le_trans (h3 d hd).2 h4⟩⟩
inductive P9 (v : Value) (r : Str) (N : Led) : Vals → Led → Prop where
  | mk (t : Tok) : P9 v r N [some v, some (.str r t)] N
theorem ph9 {X : LX} (G : Ok (LC X (Str.ofString "number" :: Str.ofString "rounds" :: []))) (hA : Room X.A 9) (ds : List Nat) (t7 : Tok) (hd : Digs ds) (N : Led) :
    AW (LC X (Str.ofString "number" :: Str.ofString "rounds" :: [])) (exec S9.1 (LC X (Str.ofString "number" :: Str.ofString "rounds" :: [])).env) [some (.int (numD ds : Nat) t7), none] N (fun f v n => f = .next ∧ P9 (.int (numD ds : Nat) t7) (rdS ds) N v n) := by
  walk_at "hide"
  unfold S9
  dsimp only
  have e : (-((numD ds : Nat) : Int)).natAbs = numD ds := by omega
  have hb : (-((numD ds : Nat) : Int)).natAbs < 16 ^ 8 := by
    obtain ⟨a, b, c, d, rfl, h1, h2, h3, h4, h5⟩ := hd.four
    rw [e, numD_four]; omega
  repeat walk_at "aw"
  refine AW.callO (written_spec X.w (-(numD ds : Nat)) _ hb) (hA.less (by decide)) G (by intro p hp; cases hp) fun tr => ?_
  rw [e, hd.hexa]
  repeat walk_at "aw"
  exact ⟨rfl, ⟨tr⟩⟩
theorem ph10 {X : LX} (G : Ok (LC X (Str.ofString "number" :: Str.ofString "rounds" :: []))) (hA : Room X.A 9) (ds : List Nat) (t7 tr : Tok) (hd : Digs ds) (N : Led) :
    AW (LC X (Str.ofString "number" :: Str.ofString "rounds" :: [])) (exec S10.1 (LC X (Str.ofString "number" :: Str.ofString "rounds" :: [])).env) [some (.int (numD ds : Nat) t7), some (.str (rdS ds) tr)] N (fun f v n => f = .next ∧ v = [some (.int (numD ds : Nat) t7), some (.str (rdS ds) tr)] ∧ n = N) := by
  walk_at "hide"
  unfold S10
  dsimp only
  have hl : (rdS ds).length = 4 := hd.four_.sz
  repeat walk_at "aw"
  refine AW.lenS (by rw [hl]; decide) fun _ => ?_
  repeat walk_at "aw"
  refine ifN (by rw [hl]; decide) ?_
  repeat walk_at "aw"
  refine AW.callO (number_spec X.w (rdS ds) tr) (hA.less (by decide)) G (by intro p hp; cases hp) fun _ => ?_
  repeat walk_at "aw"
  refine ifN (by rw [hd.numS]; simp) ?_
  repeat walk_at "aw"
  exact ⟨rfl, rfl, rfl⟩

/-! the words -/
noncomputable def insAll (i : Nat) (w : List Nat) : List (List Nat) := (List.range (w.length + 1)).map fun s => w.take s ++ [i] ++ w.drop s
noncomputable def WW : Nat → List (List Nat)
  | 0 => [[]]
  | i + 1 => (WW i).flatMap (insAll i)
theorem WW_len : ∀ i, i ≤ 4 → (∀ w ∈ WW i, w.length = i) ∧ (WW i).length ≤ 24 := by decide +kernel
theorem WW_mem : (∀ w ∈ WW 4, w ∈ P24) ∧ (∀ w ∈ P24, w ∈ WW 4) ∧ (WW 4).Nodup ∧ (WW 4).length = 24 := by decide +kernel
theorem sg_wd (r : Str) : sg r = wd r := rfl
theorem sg_take (r : Str) (w : List Nat) (k : Nat) : (⟨((sg r w).cps.toList.take k).toArray⟩ : Str) = sg r (w.take k) := by
  show (⟨_⟩ : Str) = ⟨_⟩
  simp [sg, List.map_take]
theorem sg_drop (r : Str) (w : List Nat) (k : Nat) : (⟨((sg r w).cps.toList.drop k).toArray⟩ : Str) = sg r (w.drop k) := by
  show (⟨_⟩ : Str) = ⟨_⟩
  simp [sg, List.map_drop]
theorem sg_app (r : Str) (a b : List Nat) : sg r a ++ sg r b = sg r (a ++ b) := by
  show (⟨_⟩ : Str) = ⟨_⟩
  simp [sg]
theorem sg_one (r : Str) (i : Nat) : chr1 (r.cps.getD i 0) = sg r [i] := rfl
theorem sg_len (r : Str) (w : List Nat) : (sg r w).length = w.length := by
  show (sg r w).cps.size = _
  simp [sg]
theorem insAll_len (i : Nat) {w : List Nat} {n : Nat} (h : w.length = n) : (insAll i w).length = n + 1 := by unfold insAll; rw [List.length_map, List.length_range, h]
theorem insAll_get (i : Nat) (w : List Nat) {k : Nat} (h : k < w.length + 1) : (insAll i w)[k]? = some (w.take k ++ [i] ++ w.drop k) := by
  unfold insAll
  rw [List.getElem?_map, List.getElem?_range h]; rfl
theorem flat_len (i : Nat) : ∀ l : List (List Nat), (∀ w ∈ l, w.length = i) → (l.flatMap (insAll i)).length = l.length * (i + 1)
  | [], _ => by simp
  | a :: l, h => by
    rw [List.flatMap_cons, List.length_append, flat_len i l fun w hw => h w (List.mem_cons_of_mem _ hw), insAll_len i (h a List.mem_cons_self), List.length_cons, Nat.succ_mul, Nat.add_comm]
theorem pmapL {r : Str} {vs : List Value} {ws : List (List Nat)} (h : Paired IsStr vs (ws.map (sg r))) {j : Nat} {v : Value} (hv : vs[j]? = some v) : ∃ w t, ws[j]? = some w ∧ v = .str (sg r w) t := by
  obtain ⟨y, hy, t, rfl⟩ := pgetL h j v hv
  rw [List.getElem?_map] at hy
  obtain ⟨w, hw, rfl⟩ := Option.map_eq_some_iff.mp hy
  exact ⟨w, t, hw, rfl⟩
inductive P11 (N : Led) : Vals → Led → Prop where
  | mk (aV : Addr) (t : Tok) : P11 N [some (.ref aV)] ((aV, .list [.str (Str.ofString "") t]) :: N)
theorem ph11 {X : LX} (G : Ok (LC X (Str.ofString "words" :: []))) (hA : Room X.A 9) (N : Led) : AW (LC X (Str.ofString "words" :: [])) (exec S11.1 (LC X (Str.ofString "words" :: [])).env) [none] N (fun f v n => f = .next ∧ P11 N v n) := by
  walk_at "hide"
  unfold S11
  dsimp only
  repeat walk_at "aw"
  exact ⟨rfl, ⟨_, _⟩⟩
inductive J12 (L1 : Addr) (r : Str) (rv : Value) (N : Led) (i : Nat) : Vals → Led → Prop where
  | mk (aV : Addr) (wv : List Value) (o1 : Option Value) (h : Paired IsStr wv ((WW i).map (sg r))) : J12 L1 r rv N i [some rv, some (.ref aV)] ((aV, .list wv) :: (L1, .cell o1) :: N)
inductive JA (D : Addr) (r : Str) (ws : List (List Nat)) : Vals → Led → Prop where
  | mk (ys : List Value) (z1 z2 : Option Value) (h : Paired IsStr ys (ws.map (sg r))) : JA D r ws [z1, z2] [(D, .list ys)]
inductive LS (D : Addr) (r : Str) (ws : List (List Nat)) : Led → Prop where
  | mk (ys : List Value) (h : Paired IsStr ys (ws.map (sg r))) : LS D r ws [(D, .list ys)]
inductive JB (D : Addr) (q : Addr × MO) (r : Str) (v : Value) (ws : List (List Nat)) : Vals → Led → Prop where
  | mk (ys : List Value) (z2 : Option Value) (h : Paired IsStr ys (ws.map (sg r))) : JB D q r v ws [some v, z2] [q, (D, .list ys)]
theorem ph12 {X : LX} (G : Ok (LC X (Str.ofString "rounds" :: Str.ofString "words" :: []))) (hA : Room X.A 9) (aV : Addr) (r : Str) (tr t0 : Tok) (hr : Four r) (N : Led) :
    AW (LC X (Str.ofString "rounds" :: Str.ofString "words" :: [])) (exec S12.1 (LC X (Str.ofString "rounds" :: Str.ofString "words" :: [])).env) [some (.str r tr), some (.ref aV)] ((aV, .list [.str (Str.ofString "") t0]) :: (X.L + 1, .cell none) :: N) (fun f v n => f = .next ∧ J12 (X.L + 1) r (.str r tr) N 4 v n) := by
  walk_at "hide"
  unfold S12
  dsimp only
  walk_at "for"
  repeat walk_at "aw"
  refine ⟨[], _, _, J12 (X.L + 1) r (.str r tr) N, starts_str, ?_, ?_, ?_, ?_, ?_⟩
  · intro p hp; cases hp
  · exact ⟨_, _, _, .cons ⟨_, rfl⟩ .nil⟩
  · intro i v₂ n₂ _ p hp; cases hp
  · rintro i hPhi0 hPhi v v₂ n₂ hi ⟨c, uc, hc, rfl⟩ ⟨aV, wv, o1, hwv⟩
    have hi4 : i < 4 := by rw [← hr.sz]; exact hi
    have ec : c = r.cps.getD i 0 := by rw [four_get hr hi4] at hc; exact (Option.some.inj hc).symm
    subst ec
    obtain ⟨hW1, hW2⟩ := WW_len i (Nat.le_of_lt hi4)
    have hwl := hwv.length
    rw [List.length_map] at hwl
    walk_at "aw"
    walk_at "cells"
    repeat walk_at "aw"
    with_reducible refine' AW.asgComp2 (Str.ofString "word" :: Str.ofString "spot" :: []) G rfl ?h0 ?h1 ?h2 ?h3 ?h4 ?h5 ?h6 ?_
    walk_at "asgcomp"
    repeat walk_at "aw"
    refine ⟨_, _, _, fun D => LS D r (WW (i + 1)), startsS_list, by walk_at "one", ?_, ?_⟩
    · intro C D s' inn
      have G' := inn.ok
      refine ⟨fun j => JA D r (((WW i).take j).flatMap (insAll i)), ⟨[], _, _, .nil⟩, ?_, ?_⟩
      · rintro j hPhi0 hPhi v v₂ n₂ hj hv ⟨ys, z1, z2, hys⟩
        obtain ⟨ws, ty, hws, rfl⟩ := pmapL hwv hv
        have hwl' := hW1 ws (List.mem_of_getElem? hws)
        repeat walk_at "aw"
        walk_at "wkh"
        with_reducible refine' AW.emit2 G' rfl ?h1 ?_
        case h1 => intro _; rfl
        repeat walk_at "aw"
        refine AW.lenS (by rw [sg_len, hwl']; omega) fun _ => ?_
        rw [sg_len, hwl']
        repeat walk_at "aw"
        rename_i tn
        refine AW.range1 G' fun rg t0 t1 => ?_
        refine ⟨_, _, _, fun k => JB D (rg, .raw (rangeObj 0 ((i : Int) + 1) 1 t0 tn t1)) r (.str (sg r ws) ty) (((WW i).take j).flatMap (insAll i) ++ (insAll i ws).take k), startsS_range (a := 0) (b := (i : Int) + 1) (by decide) (by omega), by walk_at "one", ?_, ?_, ?_, ?_⟩
        · exact ⟨ys, _, by rw [List.take_zero, List.append_nil]; exact hys⟩
        · rintro k v₂ n₂ ⟨ys, z2, hys⟩
          walk_at "one"
        · rintro k hPhi0 hPhi v v₂ n₂ hk ⟨t, rfl⟩ ⟨ys, z2, hys⟩
          have hk : k < i + 1 := hk
          have hysl : ys.length ≤ 1000 := by
            have h1 := hys.length
            rw [List.length_map, List.length_append, flat_len i _ fun w hw => hW1 w (List.mem_of_mem_take hw), List.length_take, List.length_take] at h1
            have h2 : min j (WW i).length * (i + 1) ≤ 24 * 5 := Nat.mul_le_mul (Nat.le_trans (Nat.min_le_right _ _) hW2) (by omega)
            have h3 := Nat.min_le_left k (insAll i ws).length
            omega
          repeat walk_at "aw"
          refine AW.emitA ?_
          repeat walk_at "aw"
          intro sl
          walk_at "tailS"
          rw [Int.zero_add]
          refine AW.getTake (by walk_at "has") (by rw [sg_len, hwl']; omega) (by rw [sg_len, hwl', sizeLine_eq]; omega) fun _ => ?_
          refine AW.drop (.cons _ (.refl _)) ?_
          repeat walk_at "aw"
          refine AW.addS (by rw [sizeLine_eq, sg_take, sg_len, List.length_take]; show _ + 1 ≤ _; omega) fun _ => ?_
          repeat walk_at "aw"
          intro sl
          walk_at "tailS"
          refine AW.getDrop (by walk_at "has") (by rw [sg_len, hwl']; omega) (by rw [sg_len, hwl', sizeLine_eq]; omega) fun _ => ?_
          refine AW.drop (.cons _ (.refl _)) ?_
          have e1 : (⟨((sg r ws).cps.toList.take k).toArray⟩ : Str) ++ (⟨#[r.cps.getD i 0]⟩ : Str) = sg r (ws.take k ++ [i]) := by rw [sg_take]; exact sg_app r (ws.take k) [i]
          rw [e1, sg_drop]
          refine AW.addS (by rw [sizeLine_eq, sg_len, sg_len, List.length_append, List.length_take, List.length_drop]; show _ + 1 + _ ≤ _; omega) fun tz => ?_
          rw [sg_app]
          refine ⟨ys, _, by walk_at "mem", by walk_at "upd", by rw [sizeLine_eq]; omega, ?_⟩
          repeat walk_at "aw"
          refine ⟨_, _, ?_⟩
          rw [List.take_add_one, insAll_get i ws (by omega), ← List.append_assoc, List.map_append]
          exact hys.snoc ⟨_, rfl⟩
        · rintro v₂ n₂ ⟨ys, z2, hys⟩
          repeat walk_at "aw"
          refine ⟨_, _, .refl _, .cons _ (.refl _), ys, _, _, ?_⟩
          have e : ((i : Int) + 1 - 0).toNat = i + 1 := by omega
          rw [e, List.take_of_length_le (Nat.le_of_eq (insAll_len i hwl'))] at hys
          rw [List.take_add_one, hws, List.flatMap_append]
          simpa using hys
      · rintro v₂ n₂ ⟨ys, z1, z2, hys⟩
        rw [hwl, List.take_length] at hys
        exact ⟨ys, hys⟩
    · rintro D tl ⟨ys, hys⟩
      refine AW.drop (.cons_cons _ (.cons _ (.refl _))) ?_
      repeat walk_at "aw"
      exact ⟨D, ys, _, hys⟩
  · rintro v₂ n₂ h
    rw [show r.cps.size = 4 from hr.sz] at h
    walk_at "leaf"
    exact ⟨rfl, h⟩

/-! words as numbers -/
noncomputable def dg (ds p : List Nat) : List Nat := p.map fun i => ds.getD i 0
noncomputable def valN (ds p : List Nat) : Nat := numD (dg ds p)
theorem wd_dg {ds p : List Nat} (hd : Digs ds) (hp : p ∈ P24) : (wd (rdS ds) p).cps.toList = (dg ds p).map (65 + ·) := by
  unfold wd dg
  rw [List.map_map]
  refine List.map_congr_left fun i hi => ?_
  have hi4 := (P24_small p hp).2 i hi
  show (ds.map (65 + ·)).toArray.getD i 0 = 65 + ds.getD i 0
  have hl := hd.len
  simp [show i < ds.length by omega]
theorem dg_four {ds p : List Nat} (hd : Digs ds) (hp : p ∈ P24) : ∃ a b c d, dg ds p = [a, b, c, d] ∧ (1 ≤ a ∧ a ≤ 13) ∧ (1 ≤ b ∧ b ≤ 13) ∧ (1 ≤ c ∧ c ≤ 13) ∧ (1 ≤ d ∧ d ≤ 13) := by
  obtain ⟨h4, hl⟩ := P24_small p hp
  have hb : ∀ i ∈ p, 1 ≤ ds.getD i 0 ∧ ds.getD i 0 ≤ 13 := fun i hi => by
    have : i < ds.length := by rw [hd.len]; exact hl i hi
    rw [List.getD_eq_getElem?_getD, List.getElem?_eq_getElem this]
    exact hd.bd _ (List.getElem_mem _)
  match p, h4, hb with
  | [i, j, k, l], _, hb => exact ⟨_, _, _, _, rfl, hb i (by simp), hb j (by simp), hb k (by simp), hb l (by simp)⟩
theorem numS_wd {ds p : List Nat} (hd : Digs ds) (hp : p ∈ P24) : numS (wd (rdS ds) p).cps.toList = (valN ds p : Nat) := by
  rw [wd_dg hd hp]
  obtain ⟨a, b, c, d, e, _⟩ := dg_four hd hp
  unfold valN
  rw [e, numD_four]
  simp [numS]
  omega
theorem written_wd {ds p : List Nat} (hd : Digs ds) (hp : p ∈ P24) : (⟨((hexa ((valN ds p : Nat) : Int).natAbs).map (65 + ·)).toArray⟩ : Str) = wd (rdS ds) p := by
  have h := wd_dg hd hp
  obtain ⟨a, b, c, d, e, h1, h2, h3, h4⟩ := dg_four hd hp
  have e2 : ((valN ds p : Nat) : Int).natAbs = ((a * 16 + b) * 16 + c) * 16 + d := by unfold valN; rw [e, numD_four]; omega
  rw [e2, hexa_four h1.1 (by omega) (by omega) (by omega) (by omega), ← e, ← h]
theorem val_lt {ds p : List Nat} (hd : Digs ds) (hp : p ∈ P24) : valN ds p < 16 ^ 8 := by
  obtain ⟨a, b, c, d, e, h1, h2, h3, h4⟩ := dg_four hd hp
  unfold valN; rw [e, numD_four]; omega
theorem val_mono {ds p q : List Nat} (hd : Digs ds) (hp : p ∈ P24) (hq : q ∈ P24) (h : ¬ (wd (rdS ds) q).cps.toList < (wd (rdS ds) p).cps.toList) : valN ds p ≤ valN ds q := by
  rw [wd_dg hd hp, wd_dg hd hq] at h
  obtain ⟨a, b, c, d, e, h1, h2, h3, h4⟩ := dg_four hd hp
  obtain ⟨a', b', c', d', e', h1', h2', h3', h4'⟩ := dg_four hd hq
  unfold valN
  rw [e, e'] at h ⊢
  rw [numD_four, numD_four]
  simp only [List.map_cons, List.map_nil, List.cons_lt_cons_iff, List.lt_irrefl, and_false, or_false, not_or, not_and] at h
  omega

/-- the names in order are the words of their numbers in order -/
theorem sorted_agree {ds : List Nat} (hd : Digs ds) {ms : List (List Nat)} (hms : ∀ m ∈ ms, m ∈ P24) {its out : List Value} (hp : Paired IsStr its (ms.map (wd (rdS ds)))) (hs : Sorted2 (ms.map (wd (rdS ds))) its out)
    {ns : List Int} (hn : ns.Perm (ms.map fun m => ((valN ds m : Nat) : Int))) (ho : ns.Pairwise (· ≤ ·)) :
    ∃ qs : List (List Nat), (∀ q ∈ qs, q ∈ P24) ∧ Paired IsStr out (qs.map (wd (rdS ds))) ∧ ns = qs.map fun q => ((valN ds q : Nat) : Int) := by
  obtain ⟨ps, h1, rfl, h3⟩ := hs
  have hlen := hp.length
  have hfst : (ps.map Prod.fst).Perm (ms.map (wd (rdS ds))) := by
    have := h1.map Prod.fst
    rwa [List.map_fst_zip (by omega)] at this
  have hmem : ∀ p ∈ ps, IsStr p.2 p.1 := fun p hp' => by
    have hz : p ∈ (ms.map (wd (rdS ds))).zip its := h1.mem_iff.mp hp'
    obtain ⟨i, hi, e⟩ := List.mem_iff_getElem.mp hz
    have hi0 : i < (ms.map (wd (rdS ds))).length := by rw [List.length_zip] at hi; omega
    rw [List.getElem_zip] at e
    obtain ⟨v, hv, hs⟩ := pget hp i ((ms.map (wd (rdS ds)))[i]'hi0) (List.getElem?_eq_getElem hi0)
    have hi' : i < its.length := by rw [List.length_zip] at hi; omega
    have e2 : its[i] = v := by rw [List.getElem?_eq_getElem hi'] at hv; exact Option.some.inj hv
    rw [← e]; show IsStr its[i] _
    rw [e2]; exact hs
  have hof : ∀ x ∈ ps.map Prod.fst, ∃ q, q ∈ P24 ∧ wd (rdS ds) q = x := fun x hx => by
    obtain ⟨q, hq, e⟩ := List.mem_map.mp (hfst.mem_iff.mp hx)
    exact ⟨q, hms q hq, e⟩
  have hqs : ∀ l : List Str, (∀ x ∈ l, ∃ q, q ∈ P24 ∧ wd (rdS ds) q = x) → ∃ qs : List (List Nat), (∀ q ∈ qs, q ∈ P24) ∧ qs.map (wd (rdS ds)) = l := by
    intro l
    induction l with
    | nil => intro _; exact ⟨[], (by intro q hq; cases hq), rfl⟩
    | cons x l ih =>
      intro h
      obtain ⟨qs, k1, k2⟩ := ih fun y hy => h y (List.mem_cons_of_mem _ hy)
      obtain ⟨q, k3, k4⟩ := h x List.mem_cons_self
      exact ⟨q :: qs, fun z hz => (List.mem_cons.mp hz).elim (fun e => e ▸ k3) (k1 z), by rw [List.map_cons, k2, k4]⟩
  obtain ⟨qs, k1, k2⟩ := hqs _ hof
  refine ⟨qs, k1, ?_, ?_⟩
  · rw [k2]
    refine paired_of (by simp) fun i v hv => ?_
    rw [List.getElem?_map] at hv
    cases hpi : ps[i]? with
    | none => rw [hpi] at hv; cases hv
    | some p =>
      rw [hpi] at hv
      refine ⟨p.1, by rw [List.getElem?_map, hpi]; rfl, ?_⟩
      rw [← Option.some.inj hv]
      exact hmem p (List.mem_of_getElem? hpi)
  · refine List.Perm.eq_of_pairwise (le := (· ≤ ·)) (fun a b _ _ => Int.le_antisymm) ho ?_ ?_
    · rw [List.pairwise_map]
      have h4 : (ps.map Prod.fst).Pairwise fun x y => ¬ y.cps.toList < x.cps.toList := by
        rw [List.pairwise_map]; exact h3
      rw [← k2, List.pairwise_map] at h4
      refine h4.imp_of_mem fun {a b} ha hb hab => ?_
      have := val_mono hd (k1 a ha) (k1 b hb) hab
      omega
    · refine hn.trans ?_
      have hpq : (qs.map (wd (rdS ds))).Perm (ms.map (wd (rdS ds))) := by rw [k2]; exact hfst
      have h5 : ∀ l : List (List Nat), (∀ q ∈ l, q ∈ P24) → l.map (fun q => ((valN ds q : Nat) : Int)) = (l.map (wd (rdS ds))).map fun x => numS x.cps.toList := fun l hl => by
        rw [List.map_map]
        exact List.map_congr_left fun q hq => (numS_wd hd (hl q hq)).symm
      rw [h5 ms hms, h5 qs k1]
      exact (hpq.map _).symm
theorem wd_lay {ds p : List Nat} (hd : Digs ds) (hp : p ∈ P24) : PyData.canLay0 (.str (wd (rdS ds) p)) = true := by
  have h := wd_dg hd hp
  obtain ⟨a, b, c, d, e, h1, h2, h3, h4⟩ := dg_four hd hp
  show PyData.strOk _ = true
  unfold PyData.strOk
  rw [← Array.all_toList, h, e]
  simp
  omega

theorem valueAt_map (k : Str) (v : Value) (k' : Str) : ∀ kvs : List (Str × Value), valueAt (kvs.map (fun kv => if kv.1 = k then (kv.1, v) else kv)) k' = if k' = k then (valueAt kvs k).map (fun _ => v) else valueAt kvs k'
  | [] => by simp [valueAt]
  | kv :: r => by
    rw [List.map_cons, valueAt_cons, valueAt_map k v k' r, valueAt_cons, valueAt_cons]
    by_cases h1 : kv.1 = k
    · by_cases h2 : k' = k
      · simp [h1, h2]
      · have h3 : ¬ k = k' := fun q => h2 q.symm
        simp [h1, h2, h3]
    · by_cases h2 : k' = k
      · subst h2; simp [h1]
      · simp [h1, h2]
theorem valueAt_snoc (k : Str) (v : Value) (k' : Str) : ∀ kvs : List (Str × Value), valueAt (kvs ++ [(k, v)]) k' = (valueAt kvs k').or (if k = k' then some v else none)
  | [] => by rw [List.nil_append, valueAt_cons]; simp [valueAt]
  | kv :: r => by
    rw [List.cons_append, valueAt_cons, valueAt_snoc k v k' r, valueAt_cons]
    by_cases h : kv.1 = k' <;> simp [h]
theorem valueAt_stored (kvs : List (Str × Value)) (k : Str) (v : Value) (k' : Str) : valueAt (stored kvs k v) k' = if k' = k then some v else valueAt kvs k' := by
  have h0 := PyProof.Rows.valueAt_isSome_eq_any kvs k
  by_cases ha : kvs.any (fun kv => kv.1 = k) = true
  · unfold stored
    rw [if_pos ha, valueAt_map]
    rw [ha] at h0
    obtain ⟨x, hx⟩ := Option.isSome_iff_exists.mp h0
    rw [hx]; rfl
  · have hn : valueAt kvs k = none := by
      cases q : valueAt kvs k with
      | none => rfl
      | some x => rw [q] at h0; exact absurd h0.symm ha
    rw [PyProof.Rows.stored_absent hn, valueAt_snoc]
    by_cases h : k' = k
    · subst h; simp [hn]
    · have h3 : ¬ k = k' := fun q => h q.symm
      simp [h, h3]
theorem stored_len_old {kvs : List (Str × Value)} {k : Str} {v x : Value} (h : valueAt kvs k = some x) : (stored kvs k v).length = kvs.length := by
  have h0 := PyProof.Rows.valueAt_isSome_eq_any kvs k
  rw [h] at h0
  unfold stored
  rw [if_pos (by rw [← h0]; rfl), List.length_map]
theorem chr1_inj {a b : Nat} (h : chr1 a = chr1 b) : a = b := by
  have : #[a] = #[b] := congrArg Str.cps h
  simpa using this

noncomputable def Tabs (O : Led) (r : Str) (trefs : List Value) (os : List (List Nat)) : Prop :=
  Paired (fun v u => ∃ a d kvs t, v = .ref a ∧ (a, .tup [.ref d, .int (oddN u : Nat) t]) ∈ O ∧ (d, .dict kvs) ∈ O ∧ ∀ i, i < 4 → ∃ t, valueAt kvs (chr1 (r.cps.getD i 0)) = some (.str (chr1 (r.cps.getD (u.getD i 0) 0)) t)) trefs os
theorem Tabs.mono {O O' : Led} {r : Str} {trefs : List Value} {os : List (List Nat)} (h : Tabs O r trefs os) (k : ∀ p ∈ O, p ∈ O') : Tabs O' r trefs os := by
  unfold Tabs at *
  induction h with
  | nil => exact .nil
  | cons h _ ih => exact .cons (let ⟨a, d, kvs, t, e, m1, m2, q⟩ := h; ⟨a, d, kvs, t, e, k _ m1, k _ m2, q⟩) ih

inductive NewR (k : List Value → MO) (N : Led) : Vals → Led → Prop where
  | mk (a : Addr) : NewR k N [some (.ref a)] ((a, k []) :: N)
theorem ph13 {X : LX} (G : Ok (LC X (Str.ofString "tables" :: []))) (hA : Room X.A 9) (N : Led) : AW (LC X (Str.ofString "tables" :: [])) (exec S13.1 (LC X (Str.ofString "tables" :: [])).env) [none] N (fun f v n => f = .next ∧ NewR .list N v n) := by
  walk_at "hide"
  unfold S13
  dsimp only
  repeat walk_at "aw"
  exact ⟨rfl, ⟨_⟩⟩
inductive J14 (L2 L3 : Addr) (q4 : Addr × MO) (rU rv : Value) (aT : Addr) (r : Str) (up : List (List Nat)) (O : Led) (i : Nat) : Vals → Led → Prop where
  | mk (trefs : List Value) (o2 o3 z1 z2 : Option Value) (O' : Led) (hO : ∀ p ∈ O, p ∈ O') (hT : Tabs O' r trefs (up.take i)) :
    J14 L2 L3 q4 rU rv aT r up O i [some rU, some rv, some (.ref aT), z1, z2] ((aT, .list trefs) :: (L2, .cell o2) :: (L3, .cell o3) :: q4 :: O')
inductive JT (r : Str) (u : List Nat) (x y z : Value) (d : Addr) (N : Led) (q : Addr × MO) (i : Nat) : Vals → Led → Prop where
  | mk (kvs : List (Str × Value)) (z1 z2 : Option Value) (hl : kvs.length ≤ i) (hk : ∀ j, j < i → ∃ t, valueAt kvs (chr1 (r.cps.getD j 0)) = some (.str (chr1 (r.cps.getD (u.getD j 0) 0)) t)) : JT r u x y z d N q i [some x, some y, some z, z1, z2] (q :: (d, .dict kvs) :: N)
theorem JT.next {r : Str} (hr : Four r) {u : List Nat} {kvs : List (Str × Value)} {k y : Nat} (hk4 : k < 4) (hy : u[k]? = some y) (hk : ∀ j, j < k → ∃ t, valueAt kvs (chr1 (r.cps.getD j 0)) = some (.str (chr1 (r.cps.getD (u.getD j 0) 0)) t)) (t : Tok) :
    ∀ j, j < k + 1 → ∃ t', valueAt (stored kvs ⟨#[r.cps.getD k 0]⟩ (.str ⟨#[r.cps.getD y 0]⟩ t)) (chr1 (r.cps.getD j 0)) = some (.str (chr1 (r.cps.getD (u.getD j 0) 0)) t') := by
  intro j hj
  rw [valueAt_stored]
  by_cases hjk : j = k
  · subst hjk
    rw [if_pos (show chr1 (r.cps.getD j 0) = (⟨#[r.cps.getD j 0]⟩ : Str) from rfl), List.getD_eq_getElem?_getD, hy]
    exact ⟨_, rfl⟩
  · have hj' := Nat.lt_of_le_of_ne (Nat.le_of_lt_succ hj) hjk
    rw [if_neg (show ¬ chr1 (r.cps.getD j 0) = (⟨#[r.cps.getD k 0]⟩ : Str) from fun q => hjk (hr.inj j k (Nat.lt_trans hj' hk4) hk4 (chr1_inj q)))]
    exact hk j hj'
theorem AW.dropC {α : Type} {c : Cx} {vals : Vals} {news : Led} {t : Sem α} {p q : Addr × MO} {Φ : α → Vals → Led → Prop} (h : AW c t vals news Φ) : AW c t vals ([p] ++ q :: news) Φ := AW.drop (.cons _ (.cons _ (.refl _))) h
inductive LN (D : Addr) (m : Nat) : Led → Prop where
  | mk (ys : List Value) (h : ys.length = m) : LN D m [(D, .list ys)]
inductive JC (D : Addr) (m : Nat) : Vals → Led → Prop where
  | mk (ys : List Value) (z1 z2 : Option Value) (h : ys.length = m) : JC D m [z1, z2] [(D, .list ys)]
inductive JD (D : Addr) (q : Addr × MO) (x : Value) (m : Nat) : Vals → Led → Prop where
  | mk (ys : List Value) (z2 : Option Value) (h : ys.length = m) : JD D q x m [some x, z2] [q, (D, .list ys)]
theorem cI_le (u : List Nat) (j k : Nat) : cI u j k ≤ k := by
  unfold cI
  exact Nat.le_trans (List.length_filter_le _ _) (by rw [List.length_range]; exact Nat.le_refl _)
theorem sI_le (u : List Nat) : ∀ j, j ≤ 4 → sI u j ≤ 4 * j
  | 0, _ => Nat.le_refl _
  | j + 1, h => by
    rw [sI_succ, Nat.mul_succ]
    exact Nat.add_le_add (sI_le u j (Nat.le_of_succ_le h)) (Nat.le_trans (cI_le u j j) (Nat.le_of_succ_le h))
theorem sc_le {u : List Nat} {j k : Nat} (hj : j < 4) (hk : k < j) : sI u j + cI u j k ≤ sizeLine := by
  have h1 := sI_le u j (Nat.le_of_lt hj)
  have h2 := cI_le u j k
  rw [sizeLine_eq]; omega
theorem cI_lt {u : List Nat} {j k y y2 : Nat} (hy : u[j]? = some y) (hy2 : u[k]? = some y2) (h : y < y2) : cI u j (k + 1) = cI u j k + 1 := by
  rw [cI_succ, List.getD_eq_getElem?_getD, List.getD_eq_getElem?_getD, hy, hy2]; exact congrArg _ (if_pos h)
theorem cI_nlt {u : List Nat} {j k y y2 : Nat} (hy : u[j]? = some y) (hy2 : u[k]? = some y2) (h : ¬ y < y2) : cI u j (k + 1) = cI u j k := by
  rw [cI_succ, List.getD_eq_getElem?_getD, List.getD_eq_getElem?_getD, hy, hy2]; exact congrArg _ (if_neg h)
theorem odd_cast (u : List Nat) : ((invN u : Nat) : Int).fmod 2 = (oddN u : Nat) := Int.fmod_eq_emod_of_nonneg _ (by decide)
theorem ph14 {X : LX} (G : Ok (LC X (Str.ofString "uppers" :: Str.ofString "rounds" :: Str.ofString "tables" :: Str.ofString "spot" :: Str.ofString "odd" :: []))) (hA : Room X.A 9) (aU aT : Addr) (r : Str) (tr : Tok) (hr : Four r) (q4 : Addr × MO) (O : Led) (o2 o3 : Option Value) (urefs : List Value) (up : List (List Nat)) (hU : Orders O urefs up) (hmU : (aU, .list urefs) ∈ O) :
    AW (LC X (Str.ofString "uppers" :: Str.ofString "rounds" :: Str.ofString "tables" :: Str.ofString "spot" :: Str.ofString "odd" :: [])) (exec S14.1 (LC X (Str.ofString "uppers" :: Str.ofString "rounds" :: Str.ofString "tables" :: Str.ofString "spot" :: Str.ofString "odd" :: [])).env) [some (.ref aU), some (.str r tr), some (.ref aT), none, none] ((aT, .list []) :: (X.L + 2, .cell o2) :: (X.L + 3, .cell o3) :: q4 :: O)
      (fun f v n => f = .next ∧ J14 (X.L + 2) (X.L + 3) q4 (.ref aU) (.str r tr) aT r up O up.length v n) := by
  have hul := hU.l.length
  have hU3 := hU.n
  walk_at "hide"
  unfold S14
  dsimp only
  walk_at "for"
  repeat walk_at "aw"
  refine ⟨[(aU, .list urefs)], _, _, J14 (X.L + 2) (X.L + 3) q4 (.ref aU) (.str r tr) aT r up O, starts_list, by walk_at "one", ?_, ?_, ?_, ?_⟩
  · exact ⟨[], _, _, _, _, O, fun _ h => h, .nil⟩
  · rintro i v₂ n₂ ⟨trefs, o2, o3, z1, z2, O', hO, hT⟩
    have hmU' := hO _ hmU
    walk_at "one"
  · rintro i hPhi0 hPhi v v₂ n₂ hi hv ⟨trefs, o2, o3, z1, z2, O', hO, hT⟩
    obtain ⟨u, hu, a, vo, rfl, hma, hvo⟩ := pgetL hU.l _ _ hv
    obtain ⟨u4, ul⟩ := P24_small u (hU.m u (List.mem_of_getElem? hu))
    have hma' := hO _ hma
    have htl : trefs.length ≤ 2 := by rw [hT.length, List.length_take]; exact Nat.le_trans (Nat.min_le_right _ _) hU3
    walk_at "aw"
    walk_at "cells"
    repeat walk_at "aw"
    rename_i d
    walk_at "cells"
    repeat walk_at "aw"
    refine AW.mono (Φ := fun f v n => f = .next ∧ ∃ q, JT r u (.ref aU) (.str r tr) (.ref aT) d ((aT, .list trefs) :: (X.L + 2, .cell (some (.ref a))) :: (X.L + 3, .cell (some (.ref d))) :: q4 :: O') q 4 v n) ?_ ?_
    · walk_at "hide"
      walk_at "for"
      repeat walk_at "aw"
      rename_i t4
      refine AW.range1 G fun rg t0 t1 => ?_
      refine ⟨_, _, _, JT r u (.ref aU) (.str r tr) (.ref aT) d ((aT, .list trefs) :: (X.L + 2, .cell (some (.ref a))) :: (X.L + 3, .cell (some (.ref d))) :: q4 :: O') (rg, .raw (rangeObj 0 4 1 t0 t4 t1)), starts_range (a := 0) (b := 4) (by decide) (by decide), by walk_at "one", ?_, ?_, ?_, ?_⟩
      · exact ⟨[], _, _, Nat.le_refl _, fun j hj => absurd hj (Nat.not_lt_zero _)⟩
      · rintro k v₂ n₂ ⟨kvs, z1, z2, _⟩
        walk_at "one"
      · rintro k hPhi0 hPhi v v₂ n₂ hk4 ⟨t, rfl⟩ ⟨kvs, z1, z2, hkl, hkv⟩
        have hk4 : k < 4 := hk4
        obtain ⟨y, hy⟩ : ∃ y, u[k]? = some y := ⟨_, List.getElem?_eq_getElem (by rw [u4]; exact hk4)⟩
        have hy4 := ul y (List.mem_of_getElem? hy)
        obtain ⟨z, hz, tz, rfl⟩ := pget hvo _ _ hy
        rw [Int.zero_add]
        repeat walk_at "aw"
        with_reducible refine' AW.assignSub rfl ?_
        repeat walk_at "aw"
        walk_at "tailL"
        refine AW.getL (by walk_at "has") (Int.natCast_nonneg _) (by omega) hz ?_
        walk_at "tailS"
        refine AW.getS (k := r.cps.getD y 0) (Int.natCast_nonneg _) (by omega) (four_get hr hy4) fun _ => ?_
        repeat walk_at "aw"
        walk_at "tailS"
        refine AW.getS (k := r.cps.getD k 0) (Int.natCast_nonneg _) (by omega) (four_get hr hk4) fun _ => ?_
        refine AW.setD (by walk_at "mem") (by walk_at "upd") (Nat.le_trans hkl (Nat.le_trans (Nat.le_of_lt hk4) (by rw [sizeLine_eq]; decide))) ?_
        repeat walk_at "aw"
        exact ⟨_, _, _, Nat.le_trans (stored_length_le _ _ _) (Nat.succ_le_succ hkl), JT.next hr hk4 hy hkv _⟩
      · intro v₂ n₂ h
        walk_at "leaf"
        exact ⟨rfl, _, h⟩
    · rintro _ v n ⟨rfl, q, kvs, z1, z2, hkl, hk⟩
      walk_at "go"
      refine AW.drop (.cons _ (.refl _)) ?_
      repeat walk_at "aw"
      with_reducible refine' AW.comp2L (Str.ofString "two" :: Str.ofString "one" :: []) G ?h1 ?h2 ?h3 ?h4 ?h5 ?h6 ?_
      (case h1 => rfl); (case h2 => decide); (case h3 => rfl); (case h4 => decide); (case h5 => intro _; rfl); (case h6 => decide +kernel)
      repeat walk_at "aw"
      rename_i t4
      refine AW.range1 G fun rg t0 t1 => ?_
      refine ⟨_, _, _, fun D => LN D (invN u), startsS_range (a := 0) (b := 4) (by decide) (by decide), by walk_at "one", ?_, ?_⟩
      · intro C D s' inn
        have G' := inn.ok
        refine ⟨fun j => JC D (sI u j), ⟨[], _, _, rfl⟩, ?_, ?_⟩
        · rintro j hPhi0 hPhi v v₂ n₂ hj4 ⟨t, rfl⟩ ⟨ys, z1, z2, hys⟩
          have hj : j < 4 := hj4
          obtain ⟨y, hy⟩ : ∃ y, u[j]? = some y := ⟨_, List.getElem?_eq_getElem (by rw [u4]; exact hj)⟩
          obtain ⟨z, hz, tz, rfl⟩ := pget hvo _ _ hy
          rw [Int.zero_add]
          repeat walk_at "aw"
          walk_at "wkh"
          with_reducible refine' AW.emit2 G' rfl ?h1 ?_
          case h1 => intro _; rfl
          repeat walk_at "aw"
          refine AW.range1 G' fun rg2 t0 t1 => ?_
          refine ⟨_, _, _, fun k => JD D (rg2, .raw (rangeObj 0 (j : Nat) 1 t0 t t1)) (.int (j : Nat) t) (sI u j + cI u j k), startsS_range (a := 0) (b := (j : Nat)) (by decide) (by omega), by walk_at "one", ?_, ?_, ?_, ?_⟩
          · exact ⟨ys, _, hys⟩
          · rintro k v₂ n₂ ⟨ys, z2, _⟩
            walk_at "one"
          · rintro k hPhi0 hPhi v v₂ n₂ hkj ⟨t2, rfl⟩ ⟨ys, z2, hys⟩
            have hk' : k < j := by simpa using hkj
            obtain ⟨y2, hy2⟩ : ∃ y, u[k]? = some y := ⟨_, List.getElem?_eq_getElem (by rw [u4]; exact Nat.lt_trans hk' hj)⟩
            obtain ⟨z, hz2, tz2, rfl⟩ := pget hvo _ _ hy2
            rw [Int.zero_add]
            repeat walk_at "aw"
            refine AW.tests1 ?_
            repeat walk_at "aw"
            walk_at "tailL"
            refine AW.getL (by walk_at "has") (Int.natCast_nonneg _) (by omega) hz2 ?_
            repeat walk_at "aw"
            walk_at "tailL"
            refine AW.getL (by walk_at "has") (Int.natCast_nonneg _) (by omega) hz ?_
            repeat walk_at "aw"
            by_cases hlt : y < y2
            · refine ifD (Int.ofNat_lt.mpr hlt) ?_
              refine AW.emitA ?_
              repeat walk_at "aw"
              refine ⟨ys, _, by walk_at "mem", by walk_at "upd", by rw [hys]; exact sc_le hj hk', ?_⟩
              repeat walk_at "aw"
              exact ⟨_, _, by rw [List.length_append, hys, cI_lt hy hy2 hlt]; rfl⟩
            · refine ifE (fun q => hlt (Int.ofNat_lt.mp q)) ?_
              walk_at "leaf"
              exact ⟨_, _, by rw [hys, cI_nlt hy hy2 hlt]⟩
          · rintro v₂ n₂ ⟨ys, z2, hys⟩
            walk_at "leaf"
            exact ⟨_, _, .refl _, .cons _ (.refl _), ys, _, _, by rw [sI_succ, hys]; simp⟩
        · rintro v₂ n₂ ⟨ys, z1, z2, hys⟩
          exact ⟨ys, hys⟩
      · rintro D tl ⟨ys, hys⟩
        repeat walk_at "aw"
        refine AW.lenL (.inl (.head _)) (by rw [hys]; exact Nat.lt_of_le_of_lt (sI_le u 4 (Nat.le_refl _)) (by decide)) fun _ => ?_
        refine AW.dropC ?_
        repeat walk_at "aw"
        refine AW.modI (by decide) fun to => ?_
        rw [hys, odd_cast]
        repeat walk_at "aw"
        walk_at "m_append"
        repeat walk_at "aw"
        refine ⟨isL (by walk_at "has"), ?_⟩
        repeat walk_at "aw"
        refine AW.permuted (List.perm_append_comm (l₁ := [(aT, MO.list trefs), (X.L + 2, .cell (some (.ref a))), (X.L + 3, .cell (some (.ref d))), q4]) (l₂ := [_, (d, MO.dict kvs)]) |>.append_right O') ?_
        refine AW.append (.head _) .here (Nat.le_trans htl (by rw [sizeLine_eq]; decide)) ?_
        refine ⟨rfl, ?_⟩
        repeat walk_at "aw"
        refine ⟨_, _, _, _, _, _, fun p hp => .tail _ (.tail _ (hO p hp)), ?_⟩
        rw [List.take_add_one, hu]
        exact (hT.mono fun p hp => .tail _ (.tail _ hp)).snoc ⟨_, d, kvs, to, rfl, .head _, .tail _ (.head _), hk⟩
  · intro v₂ n₂ h
    walk_at "leaf"
    rw [hul] at h
    exact ⟨rfl, h⟩

/-- the symbols: one for each word -/
structure SymOK (r : Str) (kvs : List (Str × Value)) (sym : List Nat → Int) : Prop where
  v : ∀ p ∈ P24, ∃ t, valueAt kvs (wd r p) = some (.int (sym p) t)
  n : kvs.length ≤ 24
theorem SymOK.set {r : Str} (hr : Four r) {kvs : List (Str × Value)} {sym : List Nat → Int} (h : SymOK r kvs sym) {p : List Nat} (hp : p ∈ P24) (x : Int) (t : Tok) : SymOK r (stored kvs (wd r p) (.int x t)) (fun q => if q = p then x else sym q) := by
  refine ⟨fun q hq => ?_, ?_⟩
  · rw [valueAt_stored]
    by_cases e : q = p
    · subst e; rw [if_pos rfl, if_pos rfl]; exact ⟨t, rfl⟩
    · rw [if_neg (fun z => e (wd_inj hr hq hp z)), if_neg e]; exact h.v q hq
  · obtain ⟨t', h'⟩ := h.v p hp
    rw [stored_len_old h']; exact h.n
theorem SymOK.congr {r : Str} {kvs : List (Str × Value)} {sym sym' : List Nat → Int} (h : SymOK r kvs sym) (e : ∀ p ∈ P24, sym' p = sym p) : SymOK r kvs sym' :=
  ⟨fun p hp => by rw [e p hp]; exact h.v p hp, h.n⟩

inductive NewD (N : Led) : Vals → Led → Prop where
  | mk (a : Addr) : NewD N [some (.ref a)] ((a, .dict []) :: N)
theorem ph15 {X : LX} (G : Ok (LC X (Str.ofString "symbols" :: []))) (hA : Room X.A 9) (N : Led) : AW (LC X (Str.ofString "symbols" :: [])) (exec S15.1 (LC X (Str.ofString "symbols" :: [])).env) [none] N (fun f v n => f = .next ∧ NewD N v n) := by
  walk_at "hide"
  unfold S15
  dsimp only
  repeat walk_at "aw"
  exact ⟨rfl, ⟨_⟩⟩
inductive J16 (rV : Value) (aY : Addr) (r : Str) (N : Led) (i : Nat) : Vals → Led → Prop where
  | mk (kvs : List (Str × Value)) (z : Option Value) (hl : kvs.length ≤ i) (hk : ∀ j p, j < i → (WW 4)[j]? = some p → ∃ t, valueAt kvs (wd r p) = some (.int 0 t)) : J16 rV aY r N i [some rV, some (.ref aY), z] ((aY, .dict kvs) :: N)
theorem J16.sym {rV : Value} {aY : Addr} {r : Str} {N : Led} {v : Vals} {n : Led} (h : J16 rV aY r N 24 v n) : ∃ kvs z, v = [some rV, some (.ref aY), z] ∧ n = (aY, .dict kvs) :: N ∧ SymOK r kvs (fun _ => 0) := by
  obtain ⟨kvs, z, hl, hk⟩ := h
  refine ⟨kvs, z, rfl, rfl, fun p hp => ?_, hl⟩
  obtain ⟨w1, w2, w3, w4⟩ := WW_mem
  obtain ⟨j, hj, e⟩ := List.mem_iff_getElem.mp (w2 p hp)
  exact hk j p (by rw [w4] at hj; exact hj) (by rw [List.getElem?_eq_getElem hj, e])
theorem ph16 {X : LX} (G : Ok (LC X (Str.ofString "words" :: Str.ofString "symbols" :: Str.ofString "word" :: []))) (hA : Room X.A 9) (aV aY : Addr) (r : Str) (hr : Four r) (N : Led) (wv : List Value) (hwv : Paired IsStr wv ((WW 4).map (wd r))) (hmV : (aV, .list wv) ∈ N) :
    AW (LC X (Str.ofString "words" :: Str.ofString "symbols" :: Str.ofString "word" :: [])) (exec S16.1 (LC X (Str.ofString "words" :: Str.ofString "symbols" :: Str.ofString "word" :: [])).env) [some (.ref aV), some (.ref aY), none] ((aY, .dict []) :: N) (fun f v n => f = .next ∧ J16 (.ref aV) aY r N 24 v n) := by
  obtain ⟨w1, w2, w3, w4⟩ := WW_mem
  have hwl := hwv.length
  rw [List.length_map, w4] at hwl
  walk_at "hide"
  unfold S16
  dsimp only
  walk_at "for"
  repeat walk_at "aw"
  refine ⟨[(aV, .list wv)], _, _, J16 (.ref aV) aY r N, starts_list, by walk_at "one", ?_, ?_, ?_, ?_⟩
  · exact ⟨[], _, Nat.le_refl _, fun j p hj => absurd hj (Nat.not_lt_zero _)⟩
  · rintro i v₂ n₂ ⟨kvs, z, _⟩
    walk_at "one"
  · rintro i hPhi0 hPhi v v₂ n₂ hi hv ⟨kvs, z, hkl, hk⟩
    obtain ⟨p, ty, hp, rfl⟩ := pmapL hwv hv
    have hpP := w1 p (List.mem_of_getElem? hp)
    repeat walk_at "aw"
    with_reducible refine' AW.assignSub rfl ?_
    repeat walk_at "aw"
    refine AW.setD (by walk_at "mem") (by walk_at "upd") (Nat.le_trans hkl (Nat.le_trans (Nat.le_of_lt hi) (by rw [hwl, sizeLine_eq]; decide))) ?_
    repeat walk_at "aw"
    refine ⟨_, _, Nat.le_trans (stored_length_le _ _ _) (Nat.succ_le_succ hkl), fun j q hj hq => ?_⟩
    rw [show sg r p = wd r p from rfl, valueAt_stored]
    by_cases e : q = p
    · subst e; rw [if_pos rfl]; exact ⟨_, rfl⟩
    · rw [if_neg (fun z => e (wd_inj hr (w1 q (List.mem_of_getElem? hq)) hpP z))]
      refine hk j q (Nat.lt_of_le_of_ne (Nat.le_of_lt_succ hj) fun z => e ?_) hq
      rw [z, hp] at hq; exact (Option.some.inj hq).symm
  · intro v₂ n₂ h
    walk_at "leaf"
    rw [hwl] at h
    exact ⟨rfl, h⟩
theorem ph17 {X : LX} (G : Ok (LC X (Str.ofString "names" :: []))) (hA : Room X.A 9) (N : Led) : AW (LC X (Str.ofString "names" :: [])) (exec S17.1 (LC X (Str.ofString "names" :: [])).env) [none] N (fun f v n => f = .next ∧ NewR .list N v n) := by
  walk_at "hide"
  unfold S17
  dsimp only
  repeat walk_at "aw"
  exact ⟨rfl, ⟨_⟩⟩
inductive IntV (z : Int) (N : Led) : Vals → Led → Prop where
  | mk (t : Tok) : IntV z N [some (.int z t)] N
theorem ph18 {X : LX} (G : Ok (LC X (Str.ofString "steady" :: []))) (hA : Room X.A 9) (N : Led) : AW (LC X (Str.ofString "steady" :: [])) (exec S18.1 (LC X (Str.ofString "steady" :: [])).env) [none] N (fun f v n => f = .next ∧ IntV 0 N v n) := by
  walk_at "hide"
  unfold S18
  dsimp only
  repeat walk_at "aw"
  exact ⟨rfl, ⟨_⟩⟩

noncomputable def forBody : Stmt → List Stmt
  | .For _ _ b _ _ => b
  | _ => []
noncomputable def ifBody : Stmt → List Stmt
  | .If _ b _ _ => b
  | _ => []
noncomputable def whBody : Stmt → List Stmt
  | .While _ b _ _ => b
  | _ => []
noncomputable def T19 : { s : Stmt // (forBody S19.1)[0]? = some s } := ⟨_, rfl⟩
noncomputable def U19 : { s : Stmt // (ifBody T19.1)[5]? = some s } := ⟨_, rfl⟩
noncomputable def X0 : { s : Stmt // (whBody U19.1)[0]? = some s } := ⟨_, rfl⟩
noncomputable def X1 : { s : Stmt // (whBody U19.1)[1]? = some s } := ⟨_, rfl⟩
noncomputable def X2 : { s : Stmt // (whBody U19.1)[2]? = some s } := ⟨_, rfl⟩
noncomputable def X3 : { s : Stmt // (whBody U19.1)[3]? = some s } := ⟨_, rfl⟩
noncomputable def RdL (RL : Led) (r : Str) (rrefs : List Value) (es : List (List Nat × Nat)) : Prop :=
  Paired (fun v e => ∃ a t t', v = .ref a ∧ (a, .tup [.str (wd r e.1) t, .int (e.2 : Nat) t']) ∈ RL) rrefs es
theorem RdL.mono {O O' : Led} {r : Str} {rrefs : List Value} {es : List (List Nat × Nat)} (h : RdL O r rrefs es) (k : ∀ p ∈ O, p ∈ O') : RdL O' r rrefs es := by
  unfold RdL at *
  induction h with
  | nil => exact .nil
  | cons h _ ih => exact .cons (let ⟨a, t, t', e, m1⟩ := h; ⟨a, t, t', e, k _ m1⟩) ih

inductive P1X (rL : Value) (r : Str) (es : List (List Nat × Nat)) (N : Led) : Vals → Led → Prop where
  | mk (aR : Addr) (rrefs : List Value) (RL : Led) (h : RdL RL r rrefs es) : P1X rL r es N [some rL, some (.ref aR)] ((aR, .list rrefs) :: (RL ++ N))
inductive JR (D : Addr) (r : Str) (es : List (List Nat × Nat)) : Vals → Led → Prop where
  | mk (rrefs : List Value) (RL : Led) (z : Option Value) (h : RdL RL r rrefs es) : JR D r es [z] ((D, .list rrefs) :: RL)
inductive LR (D : Addr) (r : Str) (es : List (List Nat × Nat)) : Led → Prop where
  | mk (rrefs : List Value) (RL : Led) (h : RdL RL r rrefs es) : LR D r es ((D, .list rrefs) :: RL)
theorem RdL.len {RL : Led} {r : Str} {rrefs : List Value} {es : List (List Nat × Nat)} (h : RdL RL r rrefs es) : rrefs.length = es.length := PySem.Paired.length h
theorem phX1 {X : LX} (G : Ok (LC X (Str.ofString "lowers" :: Str.ofString "reached" :: []))) (hA : Room X.A 9) (aW : Addr) (r : Str) (tq : Tok) (q : List Nat) (hq : q ∈ P24) (N : Led) (hold : (X.L + 4, .cell (some (.str (wd r q) tq))) ∈ N) (lrefs : List Value) (lo : List (List Nat)) (hL : Orders N lrefs lo) (hmL : (aW, .list lrefs) ∈ N) :
    AW (LC X (Str.ofString "lowers" :: Str.ofString "reached" :: [])) (exec X1.1 (LC X (Str.ofString "lowers" :: Str.ofString "reached" :: [])).env) [some (.ref aW), none] N (fun f v n => f = .next ∧ P1X (.ref aW) r (lo.map fun l => (mv q l, 0)) N v n) := by
  have hll := hL.l.length
  have hL3 := hL.n
  obtain ⟨q4, ql⟩ := P24_small q hq
  walk_at "hide"
  unfold X1
  dsimp only
  with_reducible refine' AW.asgComp1 (Str.ofString "order" :: []) G rfl ?h0 ?h1 ?h2 ?h3 ?h4 ?h5 ?h6 ?_
  walk_at "asgcomp"
  repeat walk_at "aw"
  refine ⟨[(aW, .list lrefs)], _, _, fun D => LR D r (lo.map fun l => (mv q l, 0)), startsS_list, by walk_at "one", ?_, ?_⟩
  · intro C D s' inn
    have G' := inn.ok
    refine ⟨fun j => JR D r ((lo.take j).map fun l => (mv q l, 0)), ⟨[], [], _, .nil⟩, ?_, ?_⟩
    · rintro j hPhi0 hPhi v v₂ n₂ hj hv ⟨rrefs, RL, z, hR⟩
      obtain ⟨l, hl, a, vo, rfl, hma, hvo⟩ := pgetL hL.l j v hv
      have hlP := hL.m l (List.mem_of_getElem? hl)
      obtain ⟨l4, ll⟩ := P24_small l hlP
      have hRl : rrefs.length ≤ 2 := by rw [hR.len, List.length_map, List.length_take]; exact Nat.le_trans (Nat.min_le_right _ _) hL3
      repeat walk_at "aw"
      walk_at "wkph"
      refine AW.emitA ?_
      repeat walk_at "aw"
      refine AW.callO (moved_spec X.w (wd r q) tq a vo l hvo (fun i hi => by rw [wd_size, q4]; exact ll i hi) (by rw [wd_size, q4]; decide) (by rw [l4]; decide)) (hA.less (by decide)) G' (by walk_at "one") fun tv => ?_
      rw [wd_mv hq hlP]
      repeat walk_at "aw"
      refine ⟨rrefs, _, by walk_at "mem", by walk_at "upd", Nat.le_trans hRl (by rw [sizeLine_eq]; decide), ?_⟩
      walk_at "leaf"
      refine ⟨_, _, _, .refl _, .refl _, .swap _ _ _, _, _, _, ?_⟩
      rw [List.take_add_one, hl, List.map_append]
      exact (hR.mono fun p hp => .tail _ hp).snoc ⟨_, tv, _, rfl, .head _⟩
    · rintro v₂ n₂ ⟨rrefs, RL, z, hR⟩
      rw [List.take_of_length_le (Nat.le_of_eq hll.symm)] at hR
      exact ⟨rrefs, RL, hR⟩
  · rintro D tl ⟨rrefs, RL, hR⟩
    repeat walk_at "aw"
    exact ⟨rfl, D, rrefs, RL, hR⟩
theorem pmoved {r : Str} (hr : Four r) {q u : List Nat} (hq : q ∈ P24) {vs ys : List Value} (hl : vs.length = q.length) (hv : ∀ (i : Nat) (v : Value), vs[i]? = some v → SignAt (wd r q) i v)
    (h : Paired (fun v y => ∃ k t, k < 4 ∧ v = .str (chr1 (r.cps.getD k 0)) t ∧ IsStr y (chr1 (r.cps.getD (u.getD k 0) 0))) vs ys) : Paired IsStr ys (((mv u q).map fun i => r.cps.getD i 0).map chr1) := by
  obtain ⟨q4, ql⟩ := P24_small q hq
  refine paired_of (by rw [List.length_map, List.length_map, mv, List.length_map, ← hl]; exact h.length.symm) fun i y hy => ?_
  obtain ⟨x, hx, k, t, hk4, rfl, hys⟩ := pget h i y hy
  obtain ⟨c, uc, hc, e⟩ := hv i _ hx
  have hi : i < q.length := by rw [← hl]; exact (List.getElem?_eq_some_iff.mp hx).1
  have e1 : c = r.cps.getD (q.getD i 0) 0 := by
    have h1 := wd_get (r := r) hi
    rw [Array.getD_eq_getD_getElem?, hc] at h1
    exact h1
  have e2 : chr1 (r.cps.getD k 0) = (⟨#[c]⟩ : Str) := by injection e
  have hqi : q.getD i 0 < 4 := by
    rw [List.getD_eq_getElem?_getD, List.getElem?_eq_getElem hi]
    exact ql _ (List.getElem_mem _)
  have e4 : k = q.getD i 0 := hr.inj _ _ hk4 hqi ((chr1_inj e2).trans e1)
  subst e4
  refine ⟨_, ?_, hys⟩
  unfold mv
  rw [List.getElem?_map, List.getElem?_map, List.getElem?_map, List.getElem?_eq_getElem hi]
  simp [hi]
inductive J2X (L3 : Addr) (rT : Value) (aR : Addr) (r : Str) (es : List (List Nat × Nat)) (R T : Led) : Vals → Led → Prop where
  | mk (rrefs : List Value) (o3 z : Option Value) (Y : Led) (h : RdL (Y ++ R) r rrefs es) : J2X L3 rT aR r es R T [some rT, some (.ref aR), z] ((aR, .list rrefs) :: (L3, .cell o3) :: (Y ++ T))
theorem phX2 {X : LX} (G : Ok (LC X (Str.ofString "tables" :: Str.ofString "reached" :: Str.ofString "odd" :: []))) (hA : Room X.A 9) (aT aR : Addr) (r : Str) (hr : Four r) (tq : Tok) (q : List Nat) (hq : q ∈ P24) (T : Led) (hold : (X.L + 4, .cell (some (.str (wd r q) tq))) ∈ T) (o3 : Option Value) (rrefs trefs : List Value)
    (up : List (List Nat)) (hup : ∀ o ∈ up, o ∈ P24) (hu2 : up.length ≤ 2) (hT : Tabs T r trefs up) (hmT : (aT, .list trefs) ∈ T) (es : List (List Nat × Nat)) (R : Led) (hR : RdL R r rrefs es) (hel : es.length ≤ 10) :
    AW (LC X (Str.ofString "tables" :: Str.ofString "reached" :: Str.ofString "odd" :: [])) (exec X2.1 (LC X (Str.ofString "tables" :: Str.ofString "reached" :: Str.ofString "odd" :: [])).env) [some (.ref aT), some (.ref aR), none] ((aR, .list rrefs) :: (X.L + 3, .cell o3) :: T)
      (fun f v n => f = .next ∧ J2X (X.L + 3) (.ref aT) aR r (es ++ up.map fun u => (mv u q, oddN u)) R T v n) := by
  have htl := hT.length
  walk_at "hide"
  unfold X2
  dsimp only
  walk_at "for"
  repeat walk_at "aw"
  refine ⟨[(aT, .list trefs)], _, _, fun i => J2X (X.L + 3) (.ref aT) aR r (es ++ (up.take i).map fun u => (mv u q, oddN u)) R T, starts_listT ?_, by walk_at "one", ?_, ?_, ?_, ?_⟩
  · intro v hv
    obtain ⟨i, hi, e⟩ := List.mem_iff_getElem.mp hv
    obtain ⟨u, _, a, d, kv, t, e2, _⟩ := pgetL hT i v (by rw [List.getElem?_eq_getElem hi, e])
    exact ⟨a, e2⟩
  · exact ⟨rrefs, _, _, [], by rw [List.take_zero, List.map_nil, List.append_nil]; exact hR⟩
  · rintro i v₂ n₂ ⟨rrefs, o3, z, Y, hR⟩
    have hmT' : (aT, MO.list trefs) ∈ Y ++ T := List.mem_append_right _ hmT
    walk_at "one"
  · rintro i hPhi0 hPhi v v₂ n₂ hi hv ⟨rrefs, o3, z, Y, hR⟩
    obtain ⟨u, hu, a, d, kv, t, rfl, hm1, hm2, hk⟩ := pgetL hT i v hv
    have huP := hup u (List.mem_of_getElem? hu)
    have hm1' : (a, MO.tup [.ref d, .int (oddN u : Nat) t]) ∈ Y ++ T := List.mem_append_right _ hm1
    have hm2' : (d, MO.dict kv) ∈ Y ++ T := List.mem_append_right _ hm2
    have hold' : (X.L + 4, MO.cell (some (.str (wd r q) tq))) ∈ Y ++ T := List.mem_append_right _ hold
    have hRl : rrefs.length ≤ 12 := by rw [hR.len, List.length_append, List.length_map, List.length_take]; omega
    walk_at "unpack2"
    walk_at "aw"
    walk_at "cells"
    repeat walk_at "aw"
    walk_at "m_append"
    repeat walk_at "aw"
    refine ⟨isL (by walk_at "has"), ?_⟩
    repeat walk_at "aw"
    walk_at "m_join"
    repeat walk_at "aw"
    refine ⟨isS, ?_⟩
    repeat walk_at "aw"
    with_reducible refine' AW.comp (fun v y => ∃ k t, k < 4 ∧ v = .str (chr1 (r.cps.getD k 0)) t ∧ IsStr y (chr1 (r.cps.getD (u.getD k 0) 0))) G ?h1 ?h2 ?h3 ?h4 ?h5 ?h6 ?_
    walk_at "comp"
    repeat walk_at "aw"
    refine ⟨_, _, _, feeds_str G, (by intro p hp; cases hp), ?_, ?_, ?_⟩
    · rw [wd_size, sizeLine_eq, (P24_small q hq).1]; decide
    · rintro C s' i v ⟨c, uc, hc, rfl⟩ e
      have G' := e.ok
      obtain ⟨k, hk4, rfl⟩ : ∃ k, k < 4 ∧ r.cps.getD k 0 = c := by
        have : c ∈ (wd r q).cps.toList := Array.mem_toList_iff.mpr (Array.mem_of_getElem? hc)
        simp only [wd, List.mem_map] at this
        obtain ⟨k, hk, e⟩ := this
        exact ⟨k, (P24_small q hq).2 k hk, e⟩
      obtain ⟨tv, hval⟩ := hk k hk4
      repeat walk_at "aw"
      walk_at "tailD"
      refine AW.getD (by walk_at "has") hval ?_
      exact ⟨k, uc, hk4, rfl, _, rfl⟩
    · intro a' vs' ys hl hv hpair
      have h2 := pmoved hr hq (by rw [hl, wd_size]) hv hpair
      repeat walk_at "aw"
      refine AW.joinC (by walk_at "has") h2 (by rw [List.length_map, mv, List.length_map, (P24_small q hq).1]; decide) fun tj => ?_
      refine AW.drop (.cons _ (.refl _)) ?_
      repeat walk_at "aw"
      rename_i az
      refine AW.permuted (news' := (aR, .list rrefs) :: (X.L + 3, .cell (some (.ref d))) :: (az, _) :: (Y ++ T)) (List.perm_append_comm (l₁ := [(aR, MO.list rrefs), (X.L + 3, .cell (some (.ref d)))]) (l₂ := [_]) |>.append_right (Y ++ T)) ?_
      refine AW.append (.head _) .here (Nat.le_trans hRl (by rw [sizeLine_eq]; decide)) ?_
      refine ⟨rfl, ?_⟩
      repeat walk_at "aw"
      refine ⟨_, _, _, (az, _) :: Y, ?_⟩
      rw [List.take_add_one, hu, List.map_append, ← List.append_assoc]
      exact (hR.mono fun p hp => .tail _ hp).snoc ⟨az, tj, t, rfl, .head _⟩
  · rintro v₂ n₂ h
    walk_at "leaf"
    rw [htl, List.take_length] at h
    exact ⟨rfl, h⟩

/-- what the breadth-first walk's inner loop hangs on -/
structure BD where
  r : Str
  up : List (List Nat)
  lo : List (List Nat)
  D : List (List Nat)
  Q : List (List Nat)
  p0 : List Nat
  q : List Nat
  σ : List Nat → Nat
  sym : List Nat → Int
  s0 : Int
  cl : Bool
structure B3 (b : BD) : Prop where
  hr : Four b.r
  h1 : 1 ≤ b.s0
  h2 : b.s0 ≤ 25
  hu : ∀ o ∈ b.up, o ∈ P24
  hl : ∀ o ∈ b.lo, o ∈ P24
  hD : Closed b.up b.lo b.D
  hsym : ∀ p ∈ P24, p ∉ b.D → b.sym p = 0
  hq : b.q ∈ b.Q
  hqP : b.q ∈ P24
  hσ : b.σ b.q < 2
structure K3 (b : BD) (i : Nat) (Q' : List (List Nat)) (σ' : List Nat → Nat) (m' : List Nat) (cl' : Bool) (qv' : List Value) (kvs' : List (Str × Value)) : Prop where
  hB : Bfs b.r b.up b.lo b.D b.p0 Q' σ' m' cl'
  hqv : Paired IsStr qv' (Q'.map (wd b.r))
  hY : SymOK b.r kvs' (symOf b.s0 Q' σ' b.sym)
  hex : ∃ ex, Q' = b.Q ++ ex
  hσ : ∀ x ∈ b.Q, σ' x = b.σ x
  hcl : b.cl = true → cl' = true
  hin : ∀ e ∈ (nbrs b.up b.lo b.q).take i, e.1 ∈ Q' ∧ (cl' = false → σ' e.1 = (b.σ b.q + e.2) % 2)
noncomputable def BD.due (b : BD) (o : Nat) : Int := b.s0 + 255 * (((b.σ b.q + o) % 2 : Nat) : Int)
section
variable {b : BD} {i : Nat} {Q' : List (List Nat)} {σ' : List Nat → Nat} {m' : List Nat} {cl' : Bool} {qv' : List Value} {kvs' : List (Str × Value)}
theorem K3.mem (k : K3 b i Q' σ' m' cl' qv' kvs') {y : List Nat} (h : y ∈ b.Q) : y ∈ Q' := by
  obtain ⟨ex, e⟩ := k.hex
  rw [e]; exact List.mem_append_left _ h
theorem K3.old (k : K3 b i Q' σ' m' cl' qv' kvs') (h : B3 b) : ∃ t, valueAt kvs' (wd b.r b.q) = some (.int (b.s0 + 255 * ((b.σ b.q : Nat) : Int)) t) := by
  obtain ⟨t, e⟩ := k.hY.v b.q h.hqP
  unfold symOf at e
  rw [if_pos (k.mem h.hq), k.hσ _ h.hq] at e
  exact ⟨t, e⟩
theorem K3.len (k : K3 b i Q' σ' m' cl' qv' kvs') : qv'.length ≤ sizeLine ∧ kvs'.length ≤ sizeLine := by
  have h1 := k.hqv.length
  rw [List.length_map] at h1
  exact ⟨by rw [h1]; exact Nat.le_trans k.hB.len (by rw [sizeLine_eq]; decide), Nat.le_trans k.hY.n (by rw [sizeLine_eq]; decide)⟩
theorem K3.stepIn (k : K3 b i Q' σ' m' cl' qv' kvs') {x : List Nat} {o : Nat} (he : (nbrs b.up b.lo b.q)[i]? = some (x, o)) {Q'' : List (List Nat)} {σ'' : List Nat → Nat} {cl'' : Bool} (h1 : ∀ y ∈ Q', y ∈ Q'') (h2 : ∀ y ∈ Q', σ'' y = σ' y) (h3 : cl' = true → cl'' = true) (h4 : x ∈ Q'' ∧ (cl'' = false → σ'' x = (b.σ b.q + o) % 2)) :
    ∀ e ∈ (nbrs b.up b.lo b.q).take (i + 1), e.1 ∈ Q'' ∧ (cl'' = false → σ'' e.1 = (b.σ b.q + e.2) % 2) := by
  intro e he'
  rw [List.take_add_one, he] at he'
  rcases List.mem_append.mp he' with he' | he'
  · obtain ⟨k1, k2⟩ := k.hin e he'
    refine ⟨h1 _ k1, fun z => ?_⟩
    rw [h2 _ k1]
    exact k2 (by cases hc : cl' with | false => rfl | true => rw [h3 hc] at z; cases z)
  · have : e = (x, o) := by simpa using he'
    rw [this]; exact h4
theorem K3.same (k : K3 b i Q' σ' m' cl' qv' kvs') {x : List Nat} {o : Nat} (he : (nbrs b.up b.lo b.q)[i]? = some (x, o)) (hx : x ∈ Q') (hne : σ' x = (b.σ b.q + o) % 2) : K3 b (i + 1) Q' σ' m' cl' qv' kvs' :=
  ⟨k.hB, k.hqv, k.hY, k.hex, k.hσ, k.hcl, k.stepIn he (fun _ h => h) (fun _ _ => rfl) id ⟨hx, fun _ => hne⟩⟩
theorem K3.hbB (k : K3 b i Q' σ' m' cl' qv' kvs') (h : B3 b) : σ' b.q = b.σ b.q ∧ b.q ∈ Q' := ⟨k.hσ _ h.hq, k.mem h.hq⟩
theorem K3.clashed (k : K3 b i Q' σ' m' cl' qv' kvs') (h : B3 b) {x : List Nat} {o : Nat} (he : (nbrs b.up b.lo b.q)[i]? = some (x, o)) (hx : x ∈ Q') (hne : σ' x ≠ (b.σ b.q + o) % 2) : K3 b (i + 1) Q' σ' m' true qv' kvs' :=
  ⟨k.hB.clashed h.hu h.hl (k.hbB h).2 (List.mem_of_getElem? he) hx (by rw [(k.hbB h).1]; exact hne), k.hqv, k.hY, k.hex, k.hσ, fun _ => rfl, k.stepIn he (fun _ h => h) (fun _ _ => rfl) (fun _ => rfl) ⟨hx, fun z => by cases z⟩⟩
theorem K3.push (k : K3 b i Q' σ' m' cl' qv' kvs') (h : B3 b) {x : List Nat} {o : Nat} (he : (nbrs b.up b.lo b.q)[i]? = some (x, o)) (hx : x ∉ Q') (m'' : List Nat)
    (hm : (m'' = x ∧ (wd b.r x).cps.toList < (wd b.r m').cps.toList) ∨ (m'' = m' ∧ ¬ (wd b.r x).cps.toList < (wd b.r m').cps.toList)) (tw td : Tok) :
    K3 b (i + 1) (Q' ++ [x]) (fun y => if y = x then (b.σ b.q + o) % 2 else σ' y) m'' cl' (qv' ++ [.str (wd b.r x) tw]) (stored kvs' (wd b.r x) (.int (b.due o) td)) := by
  have hem := List.mem_of_getElem? he
  have hB := k.hB.push h.hu h.hl h.hD (k.hbB h).2 hem hx m'' hm
  rw [(k.hbB h).1] at hB
  have hσ'' : ∀ y ∈ Q', (fun y => if y = x then (b.σ b.q + o) % 2 else σ' y) y = σ' y := fun y hy => if_neg fun (z : y = x) => hx (z ▸ hy)
  refine ⟨hB, by rw [List.map_append]; exact k.hqv.snoc ⟨_, rfl⟩, (k.hY.set h.hr (nbrs_mem h.hu h.hl h.hqP hem).1 _ td).congr fun p hp => ?_, ?_, fun y hy => (hσ'' y (k.mem hy)).trans (k.hσ y hy), k.hcl, k.stepIn he (fun y hy => List.mem_append_left _ hy) hσ'' id ⟨List.mem_append_right _ List.mem_cons_self, fun _ => if_pos rfl⟩⟩
  · unfold symOf
    by_cases hpx : p = x
    · subst hpx
      rw [if_pos (List.mem_append_right _ List.mem_cons_self), if_pos rfl]
      show _ + 255 * (((if p = p then (b.σ b.q + o) % 2 else σ' p) : Nat) : Int) = _
      rw [if_pos rfl]; rfl
    · have hiff : (p ∈ Q' ++ [x]) ↔ p ∈ Q' := by simp [hpx]
      rw [if_neg hpx]
      show (if p ∈ Q' ++ [x] then b.s0 + 255 * (((if p = x then (b.σ b.q + o) % 2 else σ' p) : Nat) : Int) else b.sym p) = _
      rw [if_neg hpx]
      by_cases hpQ : p ∈ Q'
      · rw [if_pos (hiff.mpr hpQ), if_pos hpQ]
      · rw [if_neg (fun z => hpQ (hiff.mp z)), if_neg hpQ]
  · obtain ⟨ex, e⟩ := k.hex
    exact ⟨ex ++ [x], by rw [e, List.append_assoc]⟩
/-- the symbol of a neighbour -/
theorem K3.cases (k : K3 b i Q' σ' m' cl' qv' kvs') (h : B3 b) {x : List Nat} {o : Nat} (he : (nbrs b.up b.lo b.q)[i]? = some (x, o)) : ∃ z t, valueAt kvs' (wd b.r x) = some (.int z t) ∧ ((x ∉ Q' ∧ z = 0) ∨ (x ∈ Q' ∧ (z == 0) = false ∧ (z != b.due o) = decide (σ' x ≠ (b.σ b.q + o) % 2))) := by
  have hem := List.mem_of_getElem? he
  obtain ⟨hxP, _⟩ := nbrs_mem h.hu h.hl h.hqP hem
  obtain ⟨t, e⟩ := k.hY.v x hxP
  refine ⟨_, t, e, ?_⟩
  unfold symOf
  by_cases hxQ : x ∈ Q'
  · have hxl := (k.hB.reach x hxQ).lt
    have := h.h1
    rw [if_pos hxQ]
    refine .inr ⟨hxQ, by simp; omega, ?_⟩
    unfold BD.due
    by_cases hne : σ' x = (b.σ b.q + o) % 2
    · rw [hne]; simp
    · rw [decide_eq_true hne]; simp; omega
  · rw [if_neg hxQ]
    exact .inl ⟨hxQ, h.hsym x hxP fun z => k.hB.out b.q (k.hbB h).2 (h.hD.back h.hu h.hl h.hqP hem z)⟩
end
inductive J3X (b : BD) (aY aQ aR : Addr) (T : Led) (i : Nat) : Vals → Led → Prop where
  | mk (Q' : List (List Nat)) (σ' : List Nat → Nat) (m' : List Nat) (cl' : Bool) (qv' : List Value) (kvs' : List (Str × Value)) (tm : Tok) (z1 z2 z3 : Option Value) (k : K3 b i Q' σ' m' cl' qv' kvs') :
    J3X b aY aQ aR T i [some (.ref aY), some (.ref aQ), some (.str (wd b.r m') tm), some (.bool cl'), some (.ref aR), z1, z2, z3] ((aQ, .list qv') :: (aY, .dict kvs') :: T)
inductive JDue (v1 v2 v3 v4 v5 v6 v7 : Value) (z : Int) (N : Led) : Vals → Led → Prop where
  | mk (t : Tok) : JDue v1 v2 v3 v4 v5 v6 v7 z N [some v1, some v2, some v3, some v4, some v5, some v6, some v7, some (.int z t)] N
theorem phX3 {X : LX} (G : Ok (LC X (Str.ofString "symbols" :: Str.ofString "queue" :: Str.ofString "least" :: Str.ofString "clash" :: Str.ofString "reached" :: Str.ofString "word" :: Str.ofString "odd" :: Str.ofString "due" :: []))) (hA : Room X.A 9) (b : BD) (hb : B3 b) (aY aQ aR : Addr) (tm tq : Tok) (m : List Nat) (qv : List Value) (kvs : List (Str × Value)) (T : Led) (hold : (X.L + 4, .cell (some (.str (wd b.r b.q) tq))) ∈ T) (rrefs : List Value) (hmR : (aR, .list rrefs) ∈ T) (hR : RdL T b.r rrefs (nbrs b.up b.lo b.q))
    (h0 : K3 b 0 b.Q b.σ m b.cl qv kvs) :
    AW (LC X (Str.ofString "symbols" :: Str.ofString "queue" :: Str.ofString "least" :: Str.ofString "clash" :: Str.ofString "reached" :: Str.ofString "word" :: Str.ofString "odd" :: Str.ofString "due" :: [])) (exec X3.1 (LC X (Str.ofString "symbols" :: Str.ofString "queue" :: Str.ofString "least" :: Str.ofString "clash" :: Str.ofString "reached" :: Str.ofString "word" :: Str.ofString "odd" :: Str.ofString "due" :: [])).env) [some (.ref aY), some (.ref aQ), some (.str (wd b.r m) tm), some (.bool b.cl), some (.ref aR), none, none, none] ((aQ, .list qv) :: (aY, .dict kvs) :: T)
      (fun f v n => f = .next ∧ J3X b aY aQ aR T (nbrs b.up b.lo b.q).length v n) := by
  have hRl := hR.len
  walk_at "hide"
  unfold X3
  dsimp only
  walk_at "for"
  repeat walk_at "aw"
  refine ⟨[(aR, .list rrefs)], _, _, J3X b aY aQ aR T, starts_listT ?_, by walk_at "one", ?_, ?_, ?_, ?_⟩
  · intro v hv
    obtain ⟨i, hi, e⟩ := List.mem_iff_getElem.mp hv
    obtain ⟨u, _, a, t, t', e2, _⟩ := pgetL hR i v (by rw [List.getElem?_eq_getElem hi, e])
    exact ⟨a, e2⟩
  · exact ⟨_, _, m, _, _, _, _, _, _, _, h0⟩
  · rintro i v₂ n₂ ⟨Q', σ', m', cl', qv', kvs', tm, z1, z2, z3, _⟩
    walk_at "one"
  · rintro i hPhi0 hPhi v v₂ n₂ hi hv ⟨Q', σ', m', cl', qv', kvs', tm, z1, z2, z3, k⟩
    obtain ⟨⟨x, o⟩, he, a, tw, t', rfl, hma⟩ := pgetL hR i v hv
    obtain ⟨tq1, hvq⟩ := k.old hb
    obtain ⟨z, tx1, hvx, hz⟩ := k.cases hb he
    have ho2 : o < 2 := (nbrs_mem hb.hu hb.hl hb.hqP (List.mem_of_getElem? he)).2
    walk_at "unpack2"
    repeat walk_at "aw"
    walk_at "tailD"
    refine AW.getD (by walk_at "has") hvq ?_
    walk_at "aw"
    walk_at "aw"
    walk_at "aw"
    refine AW.mono (Φ := fun f v n => f = .next ∧ JDue (.ref aY) (.ref aQ) (.str (wd b.r m') tm) (.bool cl') (.ref aR) (.str (wd b.r x) tw) (.int (o : Nat) t') (b.due o) ((aQ, .list qv') :: (aY, .dict kvs') :: T) v n) ?_ ?_
    · walk_at "hide"
      repeat walk_at "aw"
      have hdue := due_eq hb.h1 hb.h2 hb.hσ ho2
      by_cases ho1 : o = 1
      · subst ho1
        rw [if_pos (show ((1 : Nat) : Int) = 1 from rfl)] at hdue
        refine ifT rfl ?_
        repeat walk_at "aw"
        refine AW.callO (nont_spec X.w _ _) (hA.less (by decide)) G (by intro p hp; cases hp) fun _ => ?_
        repeat walk_at "aw"
        by_cases h256 : 256 ≤ b.s0 + 255 * ((b.σ b.q : Nat) : Int)
        · rw [if_pos h256] at hdue
          refine ifD h256 ?_
          repeat walk_at "aw"
          rw [hdue]
          exact ⟨rfl, ⟨_⟩⟩
        · rw [if_neg h256] at hdue
          refine ifE h256 ?_
          repeat walk_at "aw"
          rw [hdue]
          exact ⟨rfl, ⟨_⟩⟩
      · rw [if_neg (by omega)] at hdue
        refine ifN (by simp; omega) ?_
        repeat walk_at "aw"
        refine ⟨rfl, ?_⟩
        unfold BD.due
        rw [← hdue]
        exact ⟨_⟩
    · rintro _ v n ⟨rfl, ⟨td⟩⟩
      walk_at "go"
      repeat walk_at "aw"
      walk_at "tailD"
      refine AW.getD (by walk_at "has") hvx ?_
      repeat walk_at "aw"
      refine AW.callO (eof_spec X.w _ _) (hA.less (by decide)) G (by intro p hp; cases hp) fun _ => ?_
      repeat walk_at "aw"
      rcases hz with ⟨hxQ, rfl⟩ | ⟨hxQ, hz0, hzd⟩
      · refine ifT rfl ?_
        repeat walk_at "aw"
        with_reducible refine' AW.assignSub rfl ?_
        repeat walk_at "aw"
        refine AW.setD (by walk_at "mem") (by walk_at "upd") k.len.2 ?_
        repeat walk_at "aw"
        walk_at "m_append"
        repeat walk_at "aw"
        refine ⟨isL (by walk_at "has"), ?_⟩
        repeat walk_at "aw"
        refine AW.append (.head _) .here k.len.1 ?_
        refine ⟨rfl, ?_⟩
        repeat walk_at "aw"
        refine AW.callO (coll_spec X.w _ _ _ _) (hA.less (by decide)) G (by intro p hp; cases hp) fun _ => ?_
        repeat walk_at "aw"
        by_cases hlt : (wd b.r x).cps.toList < (wd b.r m').cps.toList
        · refine ifT (by rw [decide_eq_true hlt, decide_eq_false (fun z => List.lt_irrefl _ (List.lt_trans z hlt))]; rfl) ?_
          repeat walk_at "aw"
          exact ⟨_, _, _, _, _, _, _, _, _, _, k.push hb he hxQ x (.inl ⟨rfl, hlt⟩) tw td⟩
        · refine ifN (by
            rw [decide_eq_false hlt]
            cases decide ((wd b.r m').cps.toList < (wd b.r x).cps.toList) <;> decide) ?_
          repeat walk_at "aw"
          exact ⟨_, _, _, _, _, _, _, _, _, _, k.push hb he hxQ m' (.inr ⟨rfl, hlt⟩) tw td⟩
      · refine ifN (by rw [hz0]; exact Bool.false_ne_true) ?_
        repeat walk_at "aw"
        walk_at "tailD"
        refine AW.getD (by walk_at "has") hvx ?_
        repeat walk_at "aw"
        rw [hzd]
        by_cases hne : σ' x = (b.σ b.q + o) % 2
        · refine ifE (fun z => z hne) ?_
          repeat walk_at "aw"
          exact ⟨_, _, _, _, _, _, _, _, _, _, k.same he hxQ hne⟩
        · refine ifD hne ?_
          repeat walk_at "aw"
          exact ⟨_, _, _, _, _, _, _, _, _, _, k.clashed hb he hxQ hne⟩
  · intro v₂ n₂ h
    walk_at "leaf"
    rw [hRl] at h
    exact ⟨rfl, h⟩

noncomputable def X4 : { s : Stmt // (whBody U19.1)[4]? = some s } := ⟨_, rfl⟩
theorem U19_eq : U19.1 = .While (match U19.1 with | .While t _ _ _ => t | _ => .Constant .none 0 ⟨0, 0, 0, 0⟩) [X0.1, X1.1, X2.1, X3.1, X4.1] [] (match U19.1 with | .While _ _ _ p => p | _ => ⟨0, 0, 0, 0⟩) := rfl
theorem AW.whileH {c : Cx} {vals : Vals} {news : Led} {test : Expr} {body : List Stmt} {pos : Pos} {Φ : Flow → Vals → Led → Prop} (Inv : Nat → Vals → Led → Prop) {k₀ : Nat} (h0 : Inv k₀ vals news)
    (turn : ∀ k (Ψ : Flow → Vals → Led → Prop), (∀ f v n, Turn (fun v n => ∃ k', k' < k ∧ Inv k' v n) Φ f v n → Ψ f v n) → ∀ v n, Inv k v n → AW c (isTrue test c.env (eval test c.env)) v n fun b v₁ n₁ => if b = true then AW c (execs body c.env) v₁ n₁ Ψ else Φ .next v₁ n₁) :
    AW c (exec (.While test body [] pos) c.env) vals news Φ :=
  AW.while_ Inv h0 fun k v n hI => turn k _ (fun _ _ _ q => q) v n hI
theorem pm1 {α : Type} (a x y z : α) (l m : List α) : (a :: z :: (l ++ x :: y :: m)).Perm (a :: (l ++ x :: y :: z :: m)) := by
  have h := (List.perm_middle (a := z) (l₁ := l ++ [x, y]) (l₂ := m)).symm.cons a
  simpa using h
theorem pm2 {α : Type} (a b x y : α) (k l m : List α) : (x :: y :: a :: b :: (k ++ (l ++ m))).Perm (a :: b :: (k ++ (l ++ x :: y :: m))) := by
  have h := List.perm_append_comm (l₁ := [x, y]) (l₂ := a :: b :: (k ++ l)) |>.append_right m
  simpa using h
theorem in4 {α : Type} {p a b c d : α} {O : List α} (h : p ∈ O) : p ∈ a :: b :: c :: d :: O := .tail _ (.tail _ (.tail _ (.tail _ h)))
/-- what one class is walked from -/
structure WB where
  r : Str
  up : List (List Nat)
  lo : List (List Nat)
  D : List (List Nat)
  p0 : List Nat
  sym : List Nat → Int
  s0 : Int
structure WOK (b : WB) : Prop where
  hr : Four b.r
  h1 : 1 ≤ b.s0
  h2 : b.s0 ≤ 25
  hu : ∀ o ∈ b.up, o ∈ P24
  hl : ∀ o ∈ b.lo, o ∈ P24
  u2 : b.up.length ≤ 2
  l2 : b.lo.length ≤ 2
  hD : Closed b.up b.lo b.D
  hsym : ∀ p ∈ P24, p ∉ b.D → b.sym p = 0
noncomputable abbrev WB.bd (b : WB) (Q : List (List Nat)) (σ : List Nat → Nat) (cl : Bool) (q : List Nat) : BD := ⟨b.r, b.up, b.lo, b.D, Q, b.p0, q, σ, b.sym, b.s0, cl⟩
structure KW (b : WB) (sp : Nat) (Q : List (List Nat)) (σ : List Nat → Nat) (m : List Nat) (cl : Bool) (qv : List Value) (kvs : List (Str × Value)) : Prop where
  hB : Bfs b.r b.up b.lo b.D b.p0 Q σ m cl
  hqv : Paired IsStr qv (Q.map (wd b.r))
  hY : SymOK b.r kvs (symOf b.s0 Q σ b.sym)
  hsp : sp ≤ Q.length
  hin : ∀ (i : Nat) (q : List Nat), i < sp → Q[i]? = some q → ∀ e ∈ nbrs b.up b.lo q, e.1 ∈ Q ∧ (cl = false → σ e.1 = (σ q + e.2) % 2)
section
variable {b : WB} {sp : Nat} {Q : List (List Nat)} {σ : List Nat → Nat} {m : List Nat} {cl : Bool} {qv : List Value} {kvs : List (Str × Value)}
theorem KW.len (h : KW b sp Q σ m cl qv kvs) : qv.length = Q.length ∧ Q.length ≤ 24 := by
  have h1 := h.hqv.length
  rw [List.length_map] at h1
  exact ⟨h1, h.hB.len⟩
theorem KW.bd (h : KW b sp Q σ m cl qv kvs) (hb : WOK b) {q : List Nat} (hq : q ∈ Q) : B3 (b.bd Q σ cl q) ∧ K3 (b.bd Q σ cl q) 0 Q σ m cl qv kvs :=
  ⟨⟨hb.hr, hb.h1, hb.h2, hb.hu, hb.hl, hb.hD, hb.hsym, hq, h.hB.sub q hq, (h.hB.reach q hq).lt⟩, ⟨h.hB, h.hqv, h.hY, ⟨[], (List.append_nil _).symm⟩, fun _ _ => rfl, id, fun e he => by cases he⟩⟩
theorem KW.next (h : KW b sp Q σ m cl qv kvs) {q : List Nat} (hq : Q[sp]? = some q) {Q' : List (List Nat)} {σ' : List Nat → Nat} {m' : List Nat} {cl' : Bool} {qv' : List Value} {kvs' : List (Str × Value)}
    (k : K3 (b.bd Q σ cl q) (nbrs b.up b.lo q).length Q' σ' m' cl' qv' kvs') : KW b (sp + 1) Q' σ' m' cl' qv' kvs' := by
  obtain ⟨ex, hex⟩ := k.hex
  have hex : Q' = Q ++ ex := hex
  have hlt := (List.getElem?_eq_some_iff.mp hq).1
  refine ⟨k.hB, k.hqv, k.hY, by rw [hex, List.length_append]; exact Nat.le_trans hlt (Nat.le_add_right _ _), fun i q2 hi hq2 => ?_⟩
  rw [hex, List.getElem?_append_left (Nat.lt_of_lt_of_le hi hlt)] at hq2
  rcases Nat.lt_or_ge i sp with z | z
  · intro e he
    obtain ⟨k1, k2⟩ := h.hin i q2 z hq2 e he
    refine ⟨by rw [hex]; exact List.mem_append_left _ k1, fun hc => ?_⟩
    have hc0 : cl = false := by
      cases h : cl with
      | false => rfl
      | true => rw [k.hcl h] at hc; cases hc
    rw [k.hσ _ k1, k.hσ _ (List.mem_of_getElem? hq2)]; exact k2 hc0
  · have : i = sp := Nat.le_antisymm (Nat.le_of_lt_succ hi) z
    subst this
    rw [hq] at hq2; cases hq2
    intro e he
    rw [k.hσ _ (List.mem_of_getElem? hq)]
    exact k.hin e (by show e ∈ List.take _ (nbrs b.up b.lo q); rw [List.take_length]; exact he)
theorem KW.full (h : KW b sp Q σ m cl qv kvs) (hsp : ¬ sp < Q.length) : Full b.up b.lo Q σ cl := fun q hq => by
  obtain ⟨i, hi, e⟩ := List.mem_iff_getElem.mp hq
  exact h.hin i q (Nat.lt_of_lt_of_le hi (Nat.le_of_not_lt hsp)) (by rw [List.getElem?_eq_getElem hi, e])
end
inductive P0X (vQ vS : Value) (L4 : Addr) (y : Value) (q0 q1 q2 : Addr × MO) (N : Led) : Vals → Led → Prop where
  | mk : P0X vQ vS L4 y q0 q1 q2 N [some vQ, some vS] (q0 :: q1 :: q2 :: (L4, .cell (some y)) :: N)
theorem phX0 {X : LX} (G : Ok (LC X (Str.ofString "queue" :: Str.ofString "spot" :: []))) (hA : Room X.A 9) (aQ : Addr) (sp : Nat) (tsp : Tok) (qv : List Value) (y : Value) (hy : qv[sp]? = some y) (hs : sp ≤ 24) (q1 q2 : Addr × MO) (o4 : Option Value) (O : Led) :
    AW (LC X (Str.ofString "queue" :: Str.ofString "spot" :: [])) (exec X0.1 (LC X (Str.ofString "queue" :: Str.ofString "spot" :: [])).env) [some (.ref aQ), some (.int (sp : Nat) tsp)] ((aQ, .list qv) :: q1 :: q2 :: (X.L + 4, .cell o4) :: O) (fun f v n => f = .next ∧ P0X (.ref aQ) (.int (sp : Nat) tsp) (X.L + 4) y (aQ, .list qv) q1 q2 O v n) := by
  walk_at "hide"
  unfold X0
  dsimp only
  repeat walk_at "aw"
  walk_at "tailL"
  refine AW.getL (by walk_at "has") (Int.natCast_nonneg _) (by omega) hy ?_
  walk_at "cells"
  exact hPhi _ _ _ ⟨rfl, ⟨⟩⟩
theorem phX4 {X : LX} (G : Ok (LC X (Str.ofString "spot" :: []))) (hA : Room X.A 9) (sp : Nat) (tsp : Tok) (N : Led) : AW (LC X (Str.ofString "spot" :: [])) (exec X4.1 (LC X (Str.ofString "spot" :: [])).env) [some (.int (sp : Nat) tsp)] N (fun f v n => f = .next ∧ IntV ((sp + 1 : Nat) : Int) N v n) := by
  walk_at "hide"
  unfold X4
  dsimp only
  repeat walk_at "aw"
  exact ⟨rfl, ⟨_⟩⟩
inductive JW (b : WB) (aW aT aY aQ L3 L4 : Addr) (O : Led) (k : Nat) : Vals → Led → Prop where
  | mk (sp : Nat) (Q : List (List Nat)) (σ : List Nat → Nat) (m : List Nat) (cl : Bool) (qv : List Value) (kvs : List (Str × Value)) (o3 o4 : Option Value) (tm tsp : Tok) (z1 z2 z3 z4 : Option Value) (hk : k + sp = 24) (h : KW b sp Q σ m cl qv kvs) :
    JW b aW aT aY aQ L3 L4 O k [some (.ref aW), some (.ref aT), some (.ref aY), some (.ref aQ), some (.str (wd b.r m) tm), some (.bool cl), some (.int (sp : Nat) tsp), z1, z2, z3, z4] ((aQ, .list qv) :: (aY, .dict kvs) :: (L3, .cell o3) :: (L4, .cell o4) :: O)
inductive PW (b : WB) (aW aT aY aQ L3 L4 : Addr) (O : Led) : Vals → Led → Prop where
  | mk (Q : List (List Nat)) (σ : List Nat → Nat) (m : List Nat) (cl : Bool) (qv : List Value) (kvs : List (Str × Value)) (o3 o4 : Option Value) (tm : Tok) (y1 z1 z2 z3 z4 : Option Value) (hB : Bfs b.r b.up b.lo b.D b.p0 Q σ m cl) (hqv : Paired IsStr qv (Q.map (wd b.r))) (hY : SymOK b.r kvs (symOf b.s0 Q σ b.sym)) (hF : Full b.up b.lo Q σ cl) :
    PW b aW aT aY aQ L3 L4 O [some (.ref aW), some (.ref aT), some (.ref aY), some (.ref aQ), some (.str (wd b.r m) tm), some (.bool cl), y1, z1, z2, z3, z4] ((aQ, .list qv) :: (aY, .dict kvs) :: (L3, .cell o3) :: (L4, .cell o4) :: O)
theorem phW {X : LX} (G : Ok (LC X (Str.ofString "lowers" :: Str.ofString "tables" :: Str.ofString "symbols" :: Str.ofString "queue" :: Str.ofString "least" :: Str.ofString "clash" :: Str.ofString "spot" :: Str.ofString "reached" :: Str.ofString "word" :: Str.ofString "odd" :: Str.ofString "due" :: []))) (hA : Room X.A 9) (b : WB) (hb : WOK b) (aW aT aY aQ : Addr) (lrefs trefs : List Value) (O : Led) (hL : Orders O lrefs b.lo) (hT : Tabs O b.r trefs b.up) (hmL : (aW, .list lrefs) ∈ O) (hmT : (aT, .list trefs) ∈ O) (v : Vals) (n : Led) (h0 : JW b aW aT aY aQ (X.L + 3) (X.L + 4) O 24 v n) :
    AW (LC X (Str.ofString "lowers" :: Str.ofString "tables" :: Str.ofString "symbols" :: Str.ofString "queue" :: Str.ofString "least" :: Str.ofString "clash" :: Str.ofString "spot" :: Str.ofString "reached" :: Str.ofString "word" :: Str.ofString "odd" :: Str.ofString "due" :: [])) (exec U19.1 (LC X (Str.ofString "lowers" :: Str.ofString "tables" :: Str.ofString "symbols" :: Str.ofString "queue" :: Str.ofString "least" :: Str.ofString "clash" :: Str.ofString "spot" :: Str.ofString "reached" :: Str.ofString "word" :: Str.ofString "odd" :: Str.ofString "due" :: [])).env) v n (fun f v n => f = .next ∧ PW b aW aT aY aQ (X.L + 3) (X.L + 4) O v n) := by
  walk_at "hide"
  rw [U19_eq]
  unfold U19
  dsimp only
  refine AW.whileH (JW b aW aT aY aQ (X.L + 3) (X.L + 4) O) h0 ?_
  rintro k hPsi1 hPhi1 v n ⟨sp, Q, σ, m, cl, qv, kvs, o3, o4, tm, tsp, z1, z2, z3, z4, hk, h⟩
  obtain ⟨hql, hQl⟩ := h.len
  repeat walk_at "aw"
  refine AW.lenL (by walk_at "has") (by rw [hql]; exact Nat.lt_of_le_of_lt hQl (by decide)) fun _ => ?_
  rw [hql]
  repeat walk_at "aw"
  by_cases hlt : sp < Q.length
  · refine ifD (Int.ofNat_lt.mpr hlt) ?_
    revert hPhi1
    clear hPhi
    intro hPhi
    obtain ⟨q, hq⟩ : ∃ q, Q[sp]? = some q := ⟨_, List.getElem?_eq_getElem hlt⟩
    have hqm := List.mem_of_getElem? hq
    have hqP := h.hB.sub q hqm
    obtain ⟨hb3, hk3⟩ := h.bd hb hqm
    obtain ⟨y, hy, tq, rfl⟩ := pget h.hqv sp (wd b.r q) (by rw [List.getElem?_map, hq]; rfl)
    refine AW.stL (Ψ := P0X _ _ (X.L + 4) _ _ _ _ _) ((Str.ofString "queue" :: Str.ofString "spot" :: [])) (by decide +kernel) ?hv (fun old => phX0 (X := X.at old) (okL G (by decide +kernel)) hA aQ sp tsp qv _ hy (Nat.le_trans (Nat.le_of_lt hlt) hQl) _ _ _ _) ?_
    case hv => walk_at "lookall"
    rintro _ _ ⟨⟩
    walk_at "bk"
    refine AW.stL ((Str.ofString "lowers" :: Str.ofString "reached" :: [])) (by decide +kernel) ?hv (fun old => phX1 (X := X.at old) (okL G (by decide +kernel)) hA aW b.r tq q hqP _ (by walk_at "mem") lrefs b.lo (hL.mono fun p hp => in4 hp) (in4 hmL)) ?_
    case hv => walk_at "lookall"
    rintro _ _ ⟨aR, rrefs, RL, hR⟩
    walk_at "bk"
    refine AW.permuted (pm1 _ _ _ _ RL _) ?_
    refine AW.stL (Ψ := J2X (X.L + 3) _ _ _ _ _ _) ((Str.ofString "tables" :: Str.ofString "reached" :: Str.ofString "odd" :: [])) (by decide +kernel) ?hv (fun old => phX2 (X := X.at old) (okL G (by decide +kernel)) hA aT aR b.r hb.hr tq q hqP _ (List.mem_append_right _ (by walk_at "mem")) _ _ _ b.up hb.hu hb.u2 (hT.mono fun p hp => List.mem_append_right _ (.tail _ (.tail _ (.tail _ hp)))) (List.mem_append_right _ (.tail _ (.tail _ (.tail _ hmT)))) _ _ hR (by rw [List.length_map]; exact Nat.le_trans hb.l2 (by decide))) ?_
    case hv => walk_at "lookall"
    rintro _ _ ⟨rrefs2, o3', z, Y, hR2⟩
    walk_at "bk"
    refine AW.permuted (pm2 _ _ _ _ Y RL _) ?_
    refine AW.stL ((Str.ofString "symbols" :: Str.ofString "queue" :: Str.ofString "least" :: Str.ofString "clash" :: Str.ofString "reached" :: Str.ofString "word" :: Str.ofString "odd" :: Str.ofString "due" :: [])) (by decide +kernel) ?hv (fun old => phX3 (X := X.at old) (okL G (by decide +kernel)) hA (b.bd Q σ cl q) hb3 aY aQ aR tm tq m qv kvs _ (.tail _ (.tail _ (List.mem_append_right _ (List.mem_append_right _ (.head _))))) rrefs2 (.head _) (hR2.mono fun p hp => .tail _ (.tail _ ((List.mem_append.mp hp).elim (List.mem_append_left _) fun z => List.mem_append_right _ (List.mem_append_left _ z)))) hk3) ?_
    case hv => walk_at "lookall"
    rintro _ _ ⟨Q', σ', m', cl', qv', kvs', tm', y1, y2, y3, k3⟩
    walk_at "bk"
    refine AW.drop (.cons_cons _ (.cons_cons _ (.cons _ (.cons_cons _ ((List.sublist_append_right RL _).trans (List.sublist_append_right Y _)))))) ?_
    refine AW.stL ((Str.ofString "spot" :: [])) (by decide +kernel) ?hv (fun old => phX4 (X := X.at old) (okL G (by decide +kernel)) hA sp tsp _) ?_
    case hv => walk_at "lookall"
    rintro _ _ ⟨tsp'⟩
    walk_at "bk"
    repeat walk_at "aw"
    exact ⟨k - 1, by omega, sp + 1, _, _, _, _, _, _, _, _, _, _, _, _, _, _, by omega, h.next hq k3⟩
  · refine ifE (fun q => hlt (Int.ofNat_lt.mp q)) ?_
    exact hPhi _ _ _ ⟨rfl, Q, σ, m, cl, qv, kvs, o3, o4, tm, _, _, _, _, _, h.hB, h.hqv, h.hY, h.full hlt⟩

structure K19 (r : Str) (up lo : List (List Nat)) (i : Nat) (orbs : Orbits) (sym : List Nat → Int) (ms : List (List Nat)) (st : Nat) (kvs : List (Str × Value)) (nv : List Value) : Prop where
  hnv : Paired IsStr nv (ms.map (wd r))
  hY : SymOK r kvs sym
  hO : Orbs up lo orbs sym ms st
  hin : ∀ (j : Nat) (p : List Nat), j < i → (WW 4)[j]? = some p → p ∈ allOf orbs
noncomputable abbrev wb0 (r : Str) (up lo : List (List Nat)) (orbs : Orbits) (sym : List Nat → Int) (nv : List Value) (p0 : List Nat) : WB := ⟨r, up, lo, allOf orbs, p0, sym, 1 + (nv.length : Int)⟩
section
variable {r : Str} {up lo : List (List Nat)} {i : Nat} {orbs : Orbits} {sym : List Nat → Int} {ms : List (List Nat)} {st : Nat} {kvs : List (Str × Value)} {nv : List Value} {p0 : List Nat}
theorem K19.len (k : K19 r up lo i orbs sym ms st kvs nv) : nv.length ≤ 24 ∧ kvs.length ≤ 24 := by
  have h1 := k.hnv.length
  have h2 := k.hO.len
  rw [List.length_map] at h1
  exact ⟨by omega, k.hY.n⟩
theorem K19.inS (k : K19 r up lo i orbs sym ms st kvs nv) (hp0 : (WW 4)[i]? = some p0) {D : List (List Nat)} (h1 : ∀ p ∈ allOf orbs, p ∈ D) (h2 : p0 ∈ D) (j : Nat) (p : List Nat) (hj : j < i + 1) (hp : (WW 4)[j]? = some p) : p ∈ D := by
  rcases Nat.lt_or_ge j i with z | z
  · exact h1 p (k.hin j p z hp)
  · have : j = i := Nat.le_antisymm (Nat.le_of_lt_succ hj) z
    subst this
    rw [hp0] at hp; cases hp; exact h2
theorem K19.skip (k : K19 r up lo i orbs sym ms st kvs nv) (hp0 : (WW 4)[i]? = some p0) (hd : p0 ∈ allOf orbs) : K19 r up lo (i + 1) orbs sym ms st kvs nv :=
  ⟨k.hnv, k.hY, k.hO, k.inS hp0 (fun _ h => h) hd⟩
theorem K19.wok (k : K19 r up lo i orbs sym ms st kvs nv) (hr : Four r) (hu : ∀ o ∈ up, o ∈ P24) (hl : ∀ o ∈ lo, o ∈ P24) (hu2 : up.length ≤ 2) (hl2 : lo.length ≤ 2) : WOK (wb0 r up lo orbs sym nv p0) :=
  ⟨hr, by show 1 ≤ 1 + (nv.length : Int); omega, by have := k.len; show 1 + (nv.length : Int) ≤ 25; omega, hu, hl, hu2, hl2, k.hO.closed, k.hO.zero⟩
theorem K19.kw (k : K19 r up lo i orbs sym ms st kvs nv) (hr : Four r) (hpP : p0 ∈ P24) (hd : p0 ∉ allOf orbs) (tp tone : Tok) : KW (wb0 r up lo orbs sym nv p0) 0 [p0] (fun _ => 0) p0 false [.str (wd r p0) tp] (stored kvs (wd r p0) (.int (1 + (nv.length : Int)) tone)) := by
  refine ⟨Bfs.start hpP hd, .cons ⟨tp, rfl⟩ .nil, (k.hY.set hr hpP _ tone).congr fun p hp => ?_, Nat.zero_le _, fun i q hi => absurd hi (Nat.not_lt_zero _)⟩
  unfold symOf
  by_cases e : p = p0
  · subst e; simp
  · simp [e]
theorem K19.push (k : K19 r up lo i orbs sym ms st kvs nv) (hp0 : (WW 4)[i]? = some p0) {Q : List (List Nat)} {σ : List Nat → Nat} {m : List Nat} {cl : Bool} {kvs' : List (Str × Value)} (hB : Bfs r up lo (allOf orbs) p0 Q σ m cl) (hF : Full up lo Q σ cl) (hY : SymOK r kvs' (symOf (1 + (nv.length : Int)) Q σ sym)) (tm : Tok) :
    K19 r up lo (i + 1) (orbs ++ [(Q, cl)]) (symOf (1 + (nv.length : Int)) Q σ sym) (ms ++ [m]) (if cl then st else st + 1) kvs' (nv ++ [.str (wd r m) tm]) := by
  have hall : allOf (orbs ++ [(Q, cl)]) = allOf orbs ++ Q := by simp [allOf]
  refine ⟨by rw [List.map_append]; exact k.hnv.snoc ⟨_, rfl⟩, hY, k.hO.push hB hF (by omega), ?_⟩
  rw [hall]
  exact k.inS hp0 (fun _ h => List.mem_append_left _ h) (List.mem_append_right _ hB.at0)
end
inductive J19 (r : Str) (up lo : List (List Nat)) (aW aT aV aY aN L3 L4 : Addr) (O : Led) (i : Nat) : Vals → Led → Prop where
  | mk (orbs : Orbits) (sym : List Nat → Int) (ms : List (List Nat)) (st : Nat) (kvs : List (Str × Value)) (nv : List Value) (o3 o4 : Option Value) (ts : Tok) (z1 z2 z3 z4 z5 z6 z7 z8 z9 : Option Value) (h : K19 r up lo i orbs sym ms st kvs nv) :
    J19 r up lo aW aT aV aY aN L3 L4 O i [some (.ref aW), some (.ref aT), some (.ref aV), some (.ref aY), some (.ref aN), some (.int (st : Nat) ts), z1, z2, z3, z4, z5, z6, z7, z8, z9] ((aY, .dict kvs) :: (L3, .cell o3) :: (L4, .cell o4) :: (aN, .list nv) :: O)
/-- a statement in a frame of fewer names -/
theorem AW.exL {X : LX} {nm : List Str} (nm' : List Str) {st : Stmt} {vals vals' : Vals} {news : Led} {Φ : Flow → Vals → Led → Prop} {Ψ : Vals → Led → Prop} (hs : ∀ x ∈ nm', x ∈ nm) (hv : LookAll nm vals nm' vals')
    (h : ∀ old, AW (LC (X.at old) nm') (exec st (LC (X.at old) nm').env) vals' news fun f v n => f = .next ∧ Ψ v n)
    (k : ∀ v n, Ψ v n → ∃ V, Back nm' v nm vals V ∧ Φ .next V n) : AW (LC X nm) (exec st (LC X nm).env) vals news Φ :=
  AW.narL (t := exec st) hs hv fun old => (h old).mono fun f v n q => Exists.elim (k v n q.2) fun V q' => ⟨V, q'.1, by rw [q.1]; exact q'.2⟩
theorem JW.zero {b : WB} {aW aT aY aQ L3 L4 : Addr} {O : Led} {Q : List (List Nat)} {σ : List Nat → Nat} {m : List Nat} {cl : Bool} {qv : List Value} {kvs : List (Str × Value)} (o3 o4 : Option Value) (tm tsp : Tok) (h : KW b 0 Q σ m cl qv kvs) :
    JW b aW aT aY aQ L3 L4 O 24 [some (.ref aW), some (.ref aT), some (.ref aY), some (.ref aQ), some (.str (wd b.r m) tm), some (.bool cl), some (.int 0 tsp), none, none, none, none] ((aQ, .list qv) :: (aY, .dict kvs) :: (L3, .cell o3) :: (L4, .cell o4) :: O) :=
  ⟨0, _, _, _, _, _, _, _, _, _, _, _, _, _, _, rfl, h⟩
theorem ph19 {X : LX} (G : Ok (LC X (Str.ofString "lowers" :: Str.ofString "tables" :: Str.ofString "words" :: Str.ofString "symbols" :: Str.ofString "names" :: Str.ofString "steady" :: Str.ofString "start" :: Str.ofString "queue" :: Str.ofString "least" :: Str.ofString "clash" :: Str.ofString "spot" :: Str.ofString "reached" :: Str.ofString "word" :: Str.ofString "odd" :: Str.ofString "due" :: []))) (hA : Room X.A 9) (r : Str) (hr : Four r) (aW aT aV aY aN : Addr) (lrefs trefs wv : List Value) (O : Led) (up lo : List (List Nat)) (hu : ∀ o ∈ up, o ∈ P24) (hu2 : up.length ≤ 2) (hL : Orders O lrefs lo) (hT : Tabs O r trefs up) (hwv : Paired IsStr wv ((WW 4).map (wd r)))
    (hmL : (aW, .list lrefs) ∈ O) (hmT : (aT, .list trefs) ∈ O) (hmV : (aV, .list wv) ∈ O) (v : Vals) (n : Led) (h0 : J19 r up lo aW aT aV aY aN (X.L + 3) (X.L + 4) O 0 v n) :
    AW (LC X (Str.ofString "lowers" :: Str.ofString "tables" :: Str.ofString "words" :: Str.ofString "symbols" :: Str.ofString "names" :: Str.ofString "steady" :: Str.ofString "start" :: Str.ofString "queue" :: Str.ofString "least" :: Str.ofString "clash" :: Str.ofString "spot" :: Str.ofString "reached" :: Str.ofString "word" :: Str.ofString "odd" :: Str.ofString "due" :: [])) (exec S19.1 (LC X (Str.ofString "lowers" :: Str.ofString "tables" :: Str.ofString "words" :: Str.ofString "symbols" :: Str.ofString "names" :: Str.ofString "steady" :: Str.ofString "start" :: Str.ofString "queue" :: Str.ofString "least" :: Str.ofString "clash" :: Str.ofString "spot" :: Str.ofString "reached" :: Str.ofString "word" :: Str.ofString "odd" :: Str.ofString "due" :: [])).env) v n (fun f v n => f = .next ∧ J19 r up lo aW aT aV aY aN (X.L + 3) (X.L + 4) O 24 v n) := by
  obtain ⟨w1, w2, w3, w4⟩ := WW_mem
  have hwl := hwv.length
  rw [List.length_map, w4] at hwl
  walk_at "hide"
  unfold S19
  dsimp only
  walk_at "for"
  cases h0
  repeat walk_at "aw"
  refine ⟨[(aV, .list wv)], _, _, J19 r up lo aW aT aV aY aN (X.L + 3) (X.L + 4) O, starts_list, by walk_at "one", ?_, ?_, ?_, ?_⟩
  · exact ⟨_, _, _, _, _, _, _, _, _, _, _, _, _, _, _, _, _, _, by assumption⟩
  · rintro i v₂ n₂ ⟨orbs, sym, ms, st, kvs, nv, o3, o4, ts, z1, z2, z3, z4, z5, z6, z7, z8, z9, _⟩
    walk_at "one"
  · rintro i hPhi0 hPhi v v₂ n₂ hi hv ⟨orbs, sym, ms, st, kvs, nv, o3, o4, ts, z1, z2, z3, z4, z5, z6, z7, z8, z9, k⟩
    obtain ⟨p0, tp, hp0, e⟩ := pmapL hwv hv
    have e : v = .str (wd r p0) tp := e
    subst e
    have hpP := w1 p0 (List.mem_of_getElem? hp0)
    obtain ⟨tv, hval⟩ := k.hY.v p0 hpP
    obtain ⟨hnl, hkl⟩ := k.len
    repeat walk_at "aw"
    walk_at "tailD"
    refine AW.getD (by walk_at "has") hval ?_
    repeat walk_at "aw"
    refine AW.callO (eof_spec X.w _ _) (hA.less (by decide)) G (by intro p hp; cases hp) fun _ => ?_
    repeat walk_at "aw"
    by_cases hd : p0 ∈ allOf orbs
    · refine ifN (by simpa using k.hO.some_ p0 hpP hd) ?_
      repeat walk_at "aw"
      exact ⟨_, _, _, _, _, _, _, _, _, _, _, _, _, _, _, _, _, _, k.skip hp0 hd⟩
    · refine ifT (by simpa using k.hO.zero p0 hpP hd) ?_
      repeat walk_at "aw"
      with_reducible refine' AW.assignSub rfl ?_
      repeat walk_at "aw"
      refine AW.lenL (by walk_at "has") (Nat.lt_of_le_of_lt hnl (by decide)) fun _ => ?_
      repeat walk_at "aw"
      rename_i tone
      refine AW.setD (by walk_at "mem") (by walk_at "upd") (Nat.le_trans hkl (by rw [sizeLine_eq]; decide)) ?_
      repeat walk_at "aw"
      rename_i aQ tsp
      have kw := k.kw hr hpP hd tp tone
      refine AW.exL (Ψ := PW (wb0 r up lo orbs sym nv p0) aW aT aY aQ (X.L + 3) (X.L + 4) ((aN, .list nv) :: O)) ((Str.ofString "lowers" :: Str.ofString "tables" :: Str.ofString "symbols" :: Str.ofString "queue" :: Str.ofString "least" :: Str.ofString "clash" :: Str.ofString "spot" :: Str.ofString "reached" :: Str.ofString "word" :: Str.ofString "odd" :: Str.ofString "due" :: [])) (by decide +kernel) ?hv
        (fun old => phW (X := X.at old) (okL G (by decide +kernel)) hA (wb0 r up lo orbs sym nv p0) (k.wok hr hu hL.m hu2 hL.n) aW aT aY aQ lrefs trefs ((aN, .list nv) :: O) (hL.mono fun p hp => .tail _ hp) (hT.mono fun p hp => .tail _ hp) (.tail _ hmL) (.tail _ hmT) _ _ (JW.zero o3 o4 tp tsp kw)) ?_
      case hv => walk_at "lookall"
      rintro _ _ ⟨Q, σ, m, cl, qv, kvs', o3', o4', tm, y1, y2, y3, y4, y5, hB, hqv, hY2, hF⟩
      walk_at "bk"
      walk_at "go"
      repeat walk_at "aw"
      refine AW.minS G (by walk_at "has") hqv (List.ne_nil_of_mem (List.mem_map_of_mem hB.at0)) fun x t hx hmin => ?_
      rw [← least_eq hr hB.sub hB.mm hB.least hx hmin]
      repeat walk_at "aw"
      refine ifN (by simp) ?_
      repeat walk_at "aw"
      walk_at "m_append"
      repeat walk_at "aw"
      refine ⟨isL (by walk_at "has"), ?_⟩
      repeat walk_at "aw"
      refine AW.append (by walk_at "mem") (by walk_at "upd") (Nat.le_trans hnl (by rw [sizeLine_eq]; decide)) ?_
      refine ⟨rfl, ?_⟩
      repeat walk_at "aw"
      have kp := k.push hp0 hB hF hY2 tm
      cases cl with
      | true =>
        refine ifN (by decide) ?_
        refine AW.drop (.cons _ (.refl _)) ?_
        repeat walk_at "aw"
        exact ⟨_, _, _, _, _, _, _, _, _, _, _, _, _, _, _, _, _, _, kp⟩
      | false =>
        refine ifT (by decide) ?_
        refine AW.drop (.cons _ (.refl _)) ?_
        repeat walk_at "aw"
        exact ⟨_, _, _, st + 1, _, _, _, _, _, _, _, _, _, _, _, _, _, _, kp⟩
  · intro v₂ n₂ h
    walk_at "leaf"
    rw [hwl] at h
    exact ⟨rfl, h⟩

theorem xfrm_spec (w : World) (x : Str) (t : Tok) : Spec w 1 (.ref 108) [.str x t] [] (fun v tl => (∃ t, v = .str x t) ∧ tl = []) := by
  refine enter (binds := [(Str.ofString "s", .str x t)]) [Str.ofString "s"] [some (.str x t)] rfl rfl (by kernel_rfl) rfl
    (by decide) (locs rfl) rfl rfl rfl rfl rfl (by decide +kernel) (.has (by kernel_rfl) .nil) ?_
  intro A L s G hr hn
  repeat walk_at "aw"
  exact ⟨[], List.nil_sublist _, ⟨t, rfl⟩, rfl⟩
theorem list_same {vs nv : List Value} (hl : vs.length = nv.length) (hv : ∀ (j : Nat) (v : Value), vs[j]? = some v → nv[j]? = some v) : vs = nv := by
  refine List.ext_getElem? fun j => ?_
  cases e : vs[j]? with
  | some v => exact (hv j v e).symm
  | none =>
    have := List.getElem?_eq_none_iff.mp e
    exact (List.getElem?_eq_none (by omega)).symm
/-- what a comprehension makes of a list, in terms of what the list is -/
theorem pthru {α β : Type} {F : Value → α → Prop} {G : Value → β → Prop} {H : Value → Value → Prop} (f : α → β) {nv vs ys : List Value} {ms : List α} (h : Paired F nv ms) (hl : vs.length = nv.length) (hv : ∀ (j : Nat) (v : Value), vs[j]? = some v → nv[j]? = some v) (hp : Paired H vs ys)
    (k : ∀ v a y, F v a → H v y → G y (f a)) : Paired G ys (ms.map f) := by
  rw [list_same hl hv] at hp
  exact pmap f (fun _ _ q => q) (pflip (pcomp (H := fun a y => G y (f a)) k h hp))
inductive P20 (vN : Value) (ds : List Nat) (ms : List (List Nat)) (N : Led) : Vals → Led → Prop where
  | mk (aM : Addr) (out : List Value) (nums : List Int) (h1 : Paired IsI out nums) (h2 : nums.Perm (ms.map fun m => ((valN ds m : Nat) : Int))) (h3 : nums.Pairwise (· ≤ ·)) : P20 vN ds ms N [some vN, some (.ref aM)] ((aM, .list out) :: N)
theorem ph20 {X : LX} (G : Ok (LC X (Str.ofString "names" :: Str.ofString "numbers" :: []))) (hA : Room X.A 9) (aN : Addr) (ds : List Nat) (hd : Digs ds) (nv : List Value) (ms : List (List Nat)) (hms : ∀ m ∈ ms, m ∈ P24) (hml : ms.length ≤ 24) (hnv : Paired IsStr nv (ms.map (wd (rdS ds)))) (N : Led) (hmN : (aN, .list nv) ∈ N) :
    AW (LC X (Str.ofString "names" :: Str.ofString "numbers" :: [])) (exec S20.1 (LC X (Str.ofString "names" :: Str.ofString "numbers" :: [])).env) [some (.ref aN), none] N (fun f v n => f = .next ∧ P20 (.ref aN) ds ms N v n) := by
  have hnl := hnv.length
  rw [List.length_map] at hnl
  walk_at "hide"
  unfold S20
  dsimp only
  repeat walk_at "aw"
  with_reducible refine' AW.comp (fun v y => ∃ x, IsStr v x ∧ IsI y (numS x.cps.toList)) G ?h1 ?h2 ?h3 ?h4 ?h5 ?h6 ?_
  walk_at "comp"
  repeat walk_at "aw"
  refine ⟨_, _, _, feeds_list G, by walk_at "one", ?_, ?_, ?_⟩
  · rw [hnl, sizeLine_eq]; exact Nat.le_trans hml (by decide)
  · rintro C s' i v hv e
    obtain ⟨x, hx, t, rfl⟩ := pgetL hnv _ _ hv
    have G' := e.ok
    repeat walk_at "aw"
    refine AW.callO (number_spec X.w x t) (hA.less (by decide)) G' (by intro p hp; cases hp) fun _ => ?_
    exact ⟨x, ⟨_, rfl⟩, _, rfl⟩
  · intro a' vs' ys hl hv hpair
    have hy : Paired IsI ys (ms.map fun m => ((valN ds m : Nat) : Int)) := by
      have h := pthru (G := IsI) (fun x => numS x.cps.toList) hnv hl hv hpair (by
        rintro v x y ⟨t, rfl⟩ ⟨x', ⟨t', e⟩, h⟩
        cases e; exact h)
      rw [List.map_map] at h
      exact (List.map_congr_left (f := (fun x : Str => numS x.cps.toList) ∘ wd (rdS ds)) fun m hm => numS_wd hd (hms m hm)) ▸ h
    repeat walk_at "aw"
    refine AW.sortedI G (by walk_at "has") hy (by rw [hy.length, List.length_map]; exact Nat.lt_of_le_of_lt hml (by decide)) fun r out ns' h1 h2 h3 => ?_
    refine AW.drop (.cons_cons _ (.cons _ (.refl _))) ?_
    repeat walk_at "aw"
    exact ⟨rfl, ⟨_, _, _, h1, h2, h3⟩⟩
noncomputable def WR (z : Int) : Str := ⟨((hexa z.natAbs).map (65 + ·)).toArray⟩
theorem ph21 {X : LX} (G : Ok (LC X (Str.ofString "names" :: Str.ofString "numbers" :: []))) (hA : Room X.A 9) (aN aM : Addr) (ds : List Nat) (hd : Digs ds) (nv out : List Value) (nums : List Int) (ms : List (List Nat)) (hms : ∀ m ∈ ms, m ∈ P24) (hml : ms.length ≤ 24) (hnv : Paired IsStr nv (ms.map (wd (rdS ds)))) (N : Led) (hmN : (aN, .list nv) ∈ N) (hmM : (aM, .list out) ∈ N)
    (h1 : Paired IsI out nums) (h2 : nums.Perm (ms.map fun m => ((valN ds m : Nat) : Int))) (h3 : nums.Pairwise (· ≤ ·)) :
    AW (LC X (Str.ofString "names" :: Str.ofString "numbers" :: [])) (exec S21.1 (LC X (Str.ofString "names" :: Str.ofString "numbers" :: [])).env) [some (.ref aN), some (.ref aM)] N (fun f v n => f = .next ∧ v = [some (.ref aN), some (.ref aM)] ∧ n = N) := by
  have hnl := hnv.length
  have hol := h1.length
  have hnm := h2.length_eq
  rw [List.length_map] at hnl hnm
  walk_at "hide"
  unfold S21
  dsimp only
  repeat walk_at "aw"
  with_reducible refine' AW.cBK ?k1 ?k2 ?k3 ?_
  case k1 => walk_at "name"; exact ⟨rfl, rfl, rfl⟩
  case k2 => rfl
  case k3 => rfl
  repeat walk_at "aw"
  refine AW.sortedK (k := 1) G (hA.less (by decide)) (by walk_at "has") hnv (by rw [hnl]; exact Nat.lt_of_le_of_lt hml (by decide)) (fun x t => xfrm_spec X.w x t) fun r so hs => ?_
  obtain ⟨qs, q1, q2, rfl⟩ := sorted_agree hd hms hnv hs h2 h3
  repeat walk_at "aw"
  with_reducible refine' AW.comp (fun v y => ∃ z, IsI v z ∧ IsStr y (WR z)) G ?h1 ?h2 ?h3 ?h4 ?h5 ?h6 ?_
  walk_at "comp"
  repeat walk_at "aw"
  refine ⟨_, _, _, feeds_list G, by walk_at "one", ?_, ?_, ?_⟩
  · rw [hol, hnm, sizeLine_eq]; exact Nat.le_trans hml (by decide)
  · rintro C s' i v hv e
    obtain ⟨z, hz, t, rfl⟩ := pgetL h1 _ _ hv
    obtain ⟨q, hq, rfl⟩ := List.mem_map.mp (List.mem_of_getElem? hz)
    have G' := e.ok
    repeat walk_at "aw"
    refine AW.callO (written_spec X.w _ t (val_lt hd (q1 q hq))) (hA.less (by decide)) G' (by intro p hp; cases hp) fun _ => ?_
    exact ⟨_, ⟨_, rfl⟩, _, rfl⟩
  · intro a' vs' ys hl hv hpair
    have hy : Paired IsStr ys (qs.map (wd (rdS ds))) := by
      have h := pthru (G := IsStr) WR h1 hl hv hpair (by
        rintro v x y ⟨t, rfl⟩ ⟨x', ⟨t', e⟩, h⟩
        cases e; exact h)
      rw [List.map_map] at h
      exact (List.map_congr_left (f := WR ∘ fun q => ((valN ds q : Nat) : Int)) fun m hm => written_wd hd (q1 m hm)) ▸ h
    refine AW.neLS (hA.less (by decide)) (by walk_at "has") (by walk_at "has") q2 hy (fun x hx => ?_) ?_
    · obtain ⟨q, hq, rfl⟩ := List.mem_map.mp hx
      exact wd_lay hd (q1 q hq)
    refine AW.drop (.cons _ (.cons _ (.refl _))) ?_
    repeat walk_at "aw"
    refine ifN Bool.false_ne_true ?_
    repeat walk_at "aw"
    exact ⟨rfl, rfl, rfl⟩

inductive PG (vr vU : Value) (os : List (List Nat)) (r : Str) (N : Led) : Vals → Led → Prop where
  | mk (aG : Addr) (gv : List Value) (ps : List (List Nat)) (hg : Paired IsStr gv (ps.map (wd r))) (H : IsGroup os ps) : PG vr vU os r N [some vr, some vU, some (.ref aG)] ((aG, .list gv) :: N)
theorem ph22 {X : LX} (G : Ok (LC X (Str.ofString "rounds" :: Str.ofString "uppers" :: Str.ofString "upper" :: []))) (hA : Room X.A 9) (aU : Addr) (r : Str) (hr : Four r) (tr : Tok) (urefs : List Value) (up : List (List Nat)) (N : Led) (hm : (aU, .list urefs) ∈ N) (hU : OrdL N urefs up) (hup : ∀ o ∈ up, o ∈ P24) :
    AW (LC X (Str.ofString "rounds" :: Str.ofString "uppers" :: Str.ofString "upper" :: [])) (exec S22.1 (LC X (Str.ofString "rounds" :: Str.ofString "uppers" :: Str.ofString "upper" :: [])).env) [some (.str r tr), some (.ref aU), none] N (fun f v n => f = .next ∧ PG (.str r tr) (.ref aU) up r N v n) := by
  walk_at "hide"
  unfold S22
  dsimp only
  repeat walk_at "aw"
  refine AW.callS (group_spec X.w r tr aU urefs up N hm hU hup hr) (hA.less (by decide)) G (fun p hp => .inl hp) ?_
  rintro v tl ⟨aG, gv, ps, rfl, rfl, h1, h2⟩
  repeat walk_at "aw"
  exact ⟨rfl, aG, gv, ps, h1, h2⟩
theorem ph23 {X : LX} (G : Ok (LC X (Str.ofString "rounds" :: Str.ofString "lowers" :: Str.ofString "lower" :: []))) (hA : Room X.A 9) (aU : Addr) (r : Str) (hr : Four r) (tr : Tok) (urefs : List Value) (up : List (List Nat)) (N : Led) (hm : (aU, .list urefs) ∈ N) (hU : OrdL N urefs up) (hup : ∀ o ∈ up, o ∈ P24) :
    AW (LC X (Str.ofString "rounds" :: Str.ofString "lowers" :: Str.ofString "lower" :: [])) (exec S23.1 (LC X (Str.ofString "rounds" :: Str.ofString "lowers" :: Str.ofString "lower" :: [])).env) [some (.str r tr), some (.ref aU), none] N (fun f v n => f = .next ∧ PG (.str r tr) (.ref aU) up r N v n) := by
  walk_at "hide"
  unfold S23
  dsimp only
  repeat walk_at "aw"
  refine AW.callS (group_spec X.w r tr aU urefs up N hm hU hup hr) (hA.less (by decide)) G (fun p hp => .inl hp) ?_
  rintro v tl ⟨aG, gv, ps, rfl, rfl, h1, h2⟩
  repeat walk_at "aw"
  exact ⟨rfl, aG, gv, ps, h1, h2⟩
theorem ph24 {X : LX} (G : Ok (LC X (Str.ofString "plain_sum" :: []))) (hA : Room X.A 9) (N : Led) : AW (LC X (Str.ofString "plain_sum" :: [])) (exec S24.1 (LC X (Str.ofString "plain_sum" :: [])).env) [none] N (fun f v n => f = .next ∧ IntV 0 N v n) := by
  walk_at "hide"
  unfold S24
  dsimp only
  repeat walk_at "aw"
  exact ⟨rfl, ⟨_⟩⟩
theorem ph25 {X : LX} (G : Ok (LC X (Str.ofString "signed_sum" :: []))) (hA : Room X.A 9) (N : Led) : AW (LC X (Str.ofString "signed_sum" :: [])) (exec S25.1 (LC X (Str.ofString "signed_sum" :: [])).env) [none] N (fun f v n => f = .next ∧ IntV 0 N v n) := by
  walk_at "hide"
  unfold S25
  dsimp only
  repeat walk_at "aw"
  exact ⟨rfl, ⟨_⟩⟩
theorem h65_of {ds : List Nat} (hd : Digs ds) : ∀ c, (rdS ds).cps.toList[0]? = some c → c ≠ 32 ∧ c ≠ 9 := by
  obtain ⟨a, b, c, d, rfl, _⟩ := hd.four
  intro x hx
  have : 65 + a = x := by simpa [rdS] using hx
  omega
inductive PK (vr vH : Value) (P : Params) (ps : List (List Nat)) (N : Led) : Vals → Led → Prop where
  | mk (aK : Addr) (ks : List KD) (K : KOK P ks) (hs : ∀ φ, sumK ks φ = (ps.map fun p => φ (wsT p).count).sum) : PK vr vH P ps N [some vr, some vH, some (.ref aK)] ((aK, .list (ks.map fun k => Value.ref k.a)) :: (KL ks ++ N))
theorem ph26 {X : LX} (G : Ok (LC X (Str.ofString "rounds" :: Str.ofString "lower" :: Str.ofString "others" :: []))) (hA : Room X.A 9) (aH : Addr) (r : Str) (hr : Four r) (h65 : ∀ c, r.cps.toList[0]? = some c → c ≠ 32 ∧ c ≠ 9) (tr : Tok) (N : Led) (gv : List Value) (ps : List (List Nat)) (hm : (aH, .list gv) ∈ N) (hg : Paired IsStr gv (ps.map (wd r))) (hps : ∀ p ∈ ps, p ∈ P24) (hl : ps.length ≤ 24) :
    AW (LC X (Str.ofString "rounds" :: Str.ofString "lower" :: Str.ofString "others" :: [])) (exec S26.1 (LC X (Str.ofString "rounds" :: Str.ofString "lower" :: Str.ofString "others" :: [])).env) [some (.str r tr), some (.ref aH), none] N (fun f v n => f = .next ∧ PK (.str r tr) (.ref aH) X.w.params ps N v n) := by
  walk_at "hide"
  unfold S26
  dsimp only
  repeat walk_at "aw"
  refine AW.callS (kinds_spec X.w r tr aH gv ps N hm hg hps hl hr h65) (hA.less (by decide)) G (fun p hp => .inl hp) ?_
  rintro v tl ⟨aK, ks, rfl, rfl, h1, h2⟩
  repeat walk_at "aw"
  exact ⟨rfl, aK, ks, h1, h2⟩

/-! the sums over the kinds -/
noncomputable def zA (size : Nat) : Nat → Nat
  | 0 => 1
  | k + 1 => zA size k * size * (k + 1)
noncomputable def zB (count : List Nat) : Nat → Nat
  | 0 => 1
  | j + 1 => zB count j * zA (j + 1) (count.getD (j + 1) 0)
noncomputable def zc (count : List Nat) : Nat := zB count (count.length - 1)
noncomputable def signI (st : WSt) : Int := if (((indent st 2 : Nat) : Int) - ((indent st 1 : Nat) : Int)).fmod 2 = 1 then -1 else 1
noncomputable def tmK (k k' : KD) : Int := if k.st.count = k'.st.count then (k.n : Int) * (k'.n : Int) * (zc k.st.count : Nat) else 0
noncomputable def rowP (k : KD) (l : List KD) : Int := (l.map (tmK k)).sum
noncomputable def PS (l1 l2 : List KD) : Int := (l1.map fun k => rowP k l2).sum
noncomputable def SS (l1 l2 : List KD) : Int := (l1.map fun k => signI k.st * rowP k l2).sum
theorem rowP_snoc (k : KD) (l : List KD) (k' : KD) : rowP k (l ++ [k']) = rowP k l + tmK k k' := by simp [rowP]
theorem PS_snoc (l : List KD) (k : KD) (l2 : List KD) : PS (l ++ [k]) l2 = PS l l2 + rowP k l2 := by simp [PS]
theorem SS_snoc (l : List KD) (k : KD) (l2 : List KD) : SS (l ++ [k]) l2 = SS l l2 + signI k.st * rowP k l2 := by simp [SS]
theorem wsT_small : ∀ p ∈ P24, (wsT p).count.length ≤ 10 ∧ (∀ k ∈ (wsT p).count, k < 10) ∧ (wsT p).nt < 10 ∧ ∀ ts ∈ [1, 2], ∀ i ∈ List.range 11, indIl (wsT p).count ts i + (wsT p).nt < 100 := by decide +kernel
theorem KOK.small {P : Params} {ks : List KD} (K : KOK P ks) {ps : List (List Nat)} (hl : ps.length ≤ 24) (hs : ∀ φ, sumK ks φ = (ps.map fun p => φ (wsT p).count).sum) : ∀ k ∈ ks, k.n ≤ 24 := by
  have h := hs fun _ => 1
  have h1 : (ps.map fun p => (1 : Int)).sum = ps.length := by
    clear hl hs h
    induction ps with
    | nil => rfl
    | cons p r ih => rw [List.map_cons, List.sum_cons, ih, List.length_cons]; omega
  have h2 : ∀ l : List KD, ∀ k ∈ l, (k.n : Int) ≤ (l.map fun k => (k.n : Int) * 1).sum := by
    intro l
    have pos : ∀ l : List KD, 0 ≤ (l.map fun k => (k.n : Int) * 1).sum := by
      intro l
      induction l with
      | nil => exact Int.le_refl _
      | cons a l ih => rw [List.map_cons, List.sum_cons]; omega
    induction l with
    | nil => intro k hk; cases hk
    | cons a l ih =>
      intro k hk
      rw [List.map_cons, List.sum_cons]
      have := pos l
      rcases List.mem_cons.mp hk with rfl | hk
      · omega
      · have := ih k hk; omega
  intro k hk
  have h3 := h2 ks k hk
  have h4 : (ks.map fun k => (k.n : Int) * 1).sum = (ps.length : Int) := h.trans h1
  omega

/-! sums -/
noncomputable def sm {α : Type} (l : List α) (f : α → Int) : Int := (l.map f).sum
section
variable {α β : Type}
theorem sm_nil (f : α → Int) : sm [] f = 0 := rfl
theorem sm_cons (a : α) (l : List α) (f : α → Int) : sm (a :: l) f = f a + sm l f := by simp [sm]
theorem sm_congr {l : List α} {f g : α → Int} (h : ∀ a ∈ l, f a = g a) : sm l f = sm l g := by
  unfold sm; rw [List.map_congr_left h]
theorem sm_app (l m : List α) (f : α → Int) : sm (l ++ m) f = sm l f + sm m f := by simp [sm]
theorem sm_perm {l m : List α} (h : l.Perm m) (f : α → Int) : sm l f = sm m f := by
  induction h with
  | nil => rfl
  | cons x _ ih => rw [sm_cons, sm_cons, ih]
  | swap x y l => rw [sm_cons, sm_cons, sm_cons, sm_cons]; omega
  | trans _ _ h1 h2 => exact h1.trans h2
theorem sm_map (l : List α) (g : α → β) (f : β → Int) : sm (l.map g) f = sm l fun a => f (g a) := by simp [sm, Function.comp_def]
theorem sm_add (l : List α) (f g : α → Int) : (sm l fun a => f a + g a) = sm l f + sm l g := by
  induction l with
  | nil => rfl
  | cons a l ih => rw [sm_cons, sm_cons, sm_cons, ih]; omega
theorem sm_mul (l : List α) (c : Int) (f : α → Int) : (sm l fun a => c * f a) = c * sm l f := by
  induction l with
  | nil => simp [sm_nil]
  | cons a l ih => rw [sm_cons, sm_cons, ih, Int.mul_add]
theorem sm_zero (l : List α) : (sm l fun _ => 0) = 0 := by
  induction l with
  | nil => rfl
  | cons a l ih => rw [sm_cons, ih]; rfl
theorem sm_one (l : List α) : (sm l fun _ => 1) = l.length := by
  induction l with
  | nil => rfl
  | cons a l ih => rw [sm_cons, ih, List.length_cons]; omega
theorem sm_neg (l : List α) (f : α → Int) : (sm l fun a => -f a) = -sm l f := by
  induction l with
  | nil => rfl
  | cons a l ih => rw [sm_cons, sm_cons, ih]; omega
theorem sm_swap (l : List α) (m : List β) (f : α → β → Int) : (sm l fun a => sm m fun b => f a b) = sm m fun b => sm l fun a => f a b := by
  induction l with
  | nil => simp [sm_nil, sm_zero]
  | cons a l ih => rw [sm_cons, ih, ← sm_add]; exact sm_congr fun b _ => (sm_cons a l fun a => f a b).symm
theorem sm_flat (l : List α) (g : α → List β) (f : β → Int) : sm (l.flatMap g) f = sm l fun a => sm (g a) f := by
  induction l with
  | nil => rfl
  | cons a l ih => rw [List.flatMap_cons, sm_app, ih, sm_cons]
theorem sm_const (l : List α) (c : Int) : (sm l fun _ => c) = l.length * c := by
  have h : (sm l fun _ => c) = sm l fun _ => c * 1 := sm_congr fun _ _ => (Int.mul_one c).symm
  rw [h, sm_mul, sm_one, Int.mul_comm]
end
noncomputable def ind (a b : List Nat) : Int := if a = b then 1 else 0
theorem sm_ind {l : List (List Nat)} (hn : l.Nodup) {a : List Nat} (ha : a ∈ l) : (sm l fun p => ind a p) = 1 := by
  induction l with
  | nil => cases ha
  | cons x l ih =>
    rw [sm_cons]
    obtain ⟨n1, n2⟩ := List.nodup_cons.mp hn
    rcases List.mem_cons.mp ha with rfl | ha
    · have : (sm l fun p => ind a p) = sm l fun _ => 0 := sm_congr fun p hp => by
        unfold ind; rw [if_neg]; intro e; exact n1 (e ▸ hp)
      rw [this, sm_zero]
      unfold ind; rw [if_pos rfl]; rfl
    · rw [ih n2 ha]
      have : ind a x = 0 := by unfold ind; rw [if_neg]; intro e; exact n1 (e ▸ ha)
      rw [this]; rfl
theorem sm_filter (l : List (List Nat)) (P : List Nat → Bool) : (((l.filter P).length : Nat) : Int) = sm l fun p => if P p = true then 1 else 0 := by
  induction l with
  | nil => rfl
  | cons a l ih =>
    rw [sm_cons, ← ih, List.filter_cons]
    by_cases h : P a = true
    · rw [if_pos h, if_pos h, List.length_cons]; omega
    · rw [if_neg h, if_neg h]; omega

/-! groups -/
theorem IsGroup.iff {os ps : List (List Nat)} (g : IsGroup os ps) (p : List Nat) : p ∈ ps ↔ Gen os p := by
  refine ⟨g.gen p, fun h => ?_⟩
  induction h with
  | one => exact g.one
  | step _ ho ih => exact g.cl _ ih _ ho
noncomputable def invP (p : List Nat) : List Nat := pw (fun x => mv x p) 10 p
theorem inv_l : ∀ p ∈ P24, mv (invP p) p = [0, 1, 2, 3] ∧ mv p (invP p) = [0, 1, 2, 3] ∧ invP p ∈ P24 := by decide +kernel
theorem Gen.inv {os : List (List Nat)} (hos : ∀ o ∈ os, o ∈ P24) {p : List Nat} (h : Gen os p) : Gen os (invP p) := by
  have key : ∀ n, Gen os (pw (fun x => mv x p) n p) := fun n => by
    induction n with
    | zero => exact h
    | succ n ih => exact ih.mul hos h
  exact key 10
section
variable {os ps : List (List Nat)} (hos : ∀ o ∈ os, o ∈ P24) (g : IsGroup os ps)
include hos g
theorem IsGroup.right {a : List Nat} (ha : a ∈ ps) (f : List Nat → Int) : (sm ps fun h => f (mv h a)) = sm ps f := by
  rw [← sm_map ps (fun h => mv h a) f]
  have ga := g.gen a ha
  obtain ⟨i1, i2, i3⟩ := inv_l a (g.sub a ha)
  refine sm_perm ((List.perm_ext_iff_of_nodup ?_ g.nd).mpr fun x => ?_) f
  · refine List.Pairwise.map _ (fun x y h => h) ?_
    have : ps.Pairwise fun x y => mv x a ≠ mv y a := by
      refine g.nd.imp_of_mem fun {x y} hx hy hxy e => hxy ?_
      have := congrArg (fun z => mv z (invP a)) e
      simp only [mv_assoc24 (g.sub a ha) i3, i2] at this
      rwa [mv_one_r x (g.sub x hx), mv_one_r y (g.sub y hy)] at this
    exact this
  · constructor
    · intro h
      obtain ⟨y, hy, rfl⟩ := List.mem_map.mp h
      exact (g.iff _).mpr ((g.gen y hy).mul hos ga)
    · intro h
      refine List.mem_map.mpr ⟨mv x (invP a), (g.iff _).mpr ((g.gen x h).mul hos (ga.inv hos)), ?_⟩
      rw [mv_assoc24 i3 (g.sub a ha), i1, mv_one_r x (g.sub x h)]
theorem IsGroup.left {a : List Nat} (ha : a ∈ ps) (f : List Nat → Int) : (sm ps fun h => f (mv a h)) = sm ps f := by
  rw [← sm_map ps (fun h => mv a h) f]
  have ga := g.gen a ha
  obtain ⟨i1, i2, i3⟩ := inv_l a (g.sub a ha)
  refine sm_perm ((List.perm_ext_iff_of_nodup ?_ g.nd).mpr fun x => ?_) f
  · refine List.Pairwise.map _ (fun x y h => h) ?_
    have : ps.Pairwise fun x y => mv a x ≠ mv a y := by
      refine g.nd.imp_of_mem fun {x y} hx hy hxy e => hxy ?_
      have := congrArg (fun z => mv (invP a) z) e
      simp only [← mv_assoc24 (g.sub a ha) (g.sub x hx), ← mv_assoc24 (g.sub a ha) (g.sub y hy), i1] at this
      rwa [mv_one_l x (g.sub x hx), mv_one_l y (g.sub y hy)] at this
    exact this
  · constructor
    · intro h
      obtain ⟨y, hy, rfl⟩ := List.mem_map.mp h
      exact (g.iff _).mpr (ga.mul hos (g.gen y hy))
    · intro h
      refine List.mem_map.mpr ⟨mv (invP a) x, (g.iff _).mpr ((ga.inv hos).mul hos (g.gen x h)), ?_⟩
      rw [← mv_assoc24 i3 (g.sub x h), i2, mv_one_l x (g.sub x h)]
end

/-- a sign -/
structure Sgn (χ : List Nat → Int) : Prop where
  mul : ∀ p ∈ P24, ∀ q ∈ P24, χ (mv p q) = χ p * χ q
  sq : ∀ p ∈ P24, χ p * χ p = 1
noncomputable def chi (h : List Nat) : Int := if oddN h = 1 then -1 else 1
theorem chi_sgn : Sgn chi := by
  constructor
  · intro p hp q hq
    have h := odd_mv p hp q hq
    have h1 := oddN_lt p
    have h2 := oddN_lt q
    unfold chi
    rw [h]
    rcases Nat.lt_or_ge (oddN p) 1 with a | a <;> rcases Nat.lt_or_ge (oddN q) 1 with b | b
    · rw [show oddN p = 0 by omega, show oddN q = 0 by omega]; rfl
    · rw [show oddN p = 0 by omega, show oddN q = 1 by omega]; rfl
    · rw [show oddN p = 1 by omega, show oddN q = 0 by omega]; rfl
    · rw [show oddN p = 1 by omega, show oddN q = 1 by omega]; rfl
  · intro p _
    unfold chi
    split <;> rfl
theorem one_sgn : Sgn fun _ => 1 := ⟨fun _ _ _ _ => rfl, fun _ _ => rfl⟩

section
variable {up lo H K : List (List Nat)} (hu : ∀ o ∈ up, o ∈ P24) (hl : ∀ o ∈ lo, o ∈ P24) (gH : IsGroup up H) (gK : IsGroup lo K) {χ : List Nat → Int} (hχ : Sgn χ)
noncomputable def dbl (h p k : List Nat) : List Nat := mv (mv h p) k
noncomputable def NN (H K : List (List Nat)) (χ : List Nat → Int) (a b : List Nat) : Int := sm H fun h => sm K fun k => χ h * ind (dbl h a k) b
theorem dbl_dbl {h h0 p k k0 : List Nat} (m1 : h ∈ P24) (m2 : h0 ∈ P24) (m3 : p ∈ P24) (m4 : k0 ∈ P24) (m5 : k ∈ P24) : dbl h (dbl h0 p k0) k = dbl (mv h h0) p (mv k0 k) := by
  unfold dbl
  rw [← mv_assoc24 (mv_mem _ m2 _ m3) m4, ← mv_assoc24 m2 m3, mv_assoc24 m4 m5]
theorem dbl_mem {h p k : List Nat} (m1 : h ∈ P24) (m2 : p ∈ P24) (m3 : k ∈ P24) : dbl h p k ∈ P24 := mv_mem _ (mv_mem _ m1 _ m2) _ m3
include hu hl gH gK hχ in
/-- one word's stabilizer, seen from another word of its class -/
theorem NN_move {p0 h0 k0 : List Nat} (hp : p0 ∈ P24) (mh : h0 ∈ H) (mk : k0 ∈ K) (b : List Nat) : NN H K χ (dbl h0 p0 k0) b = χ h0 * NN H K χ p0 b := by
  have m0 := gH.sub h0 mh
  have n0 := gK.sub k0 mk
  have e1 : NN H K χ (dbl h0 p0 k0) b = sm H fun h => sm K fun k => χ h0 * (χ (mv h h0) * ind (dbl (mv h h0) p0 (mv k0 k)) b) := by
    refine sm_congr fun h hh => sm_congr fun k hk => ?_
    have m := gH.sub h hh
    rw [dbl_dbl m m0 hp n0 (gK.sub k hk), hχ.mul h m h0 m0, ← Int.mul_assoc]
    have : χ h0 * (χ h * χ h0) = χ h := by
      rw [Int.mul_comm (χ h), ← Int.mul_assoc, hχ.sq h0 m0, Int.one_mul]
    rw [this]
  have e2 : ∀ h, (sm K fun k => χ h0 * (χ (mv h h0) * ind (dbl (mv h h0) p0 (mv k0 k)) b)) = sm K fun k => χ h0 * (χ (mv h h0) * ind (dbl (mv h h0) p0 k) b) := fun h =>
    gK.left hl mk fun k => χ h0 * (χ (mv h h0) * ind (dbl (mv h h0) p0 k) b)
  rw [e1, sm_congr fun h _ => e2 h, gH.right hu mh fun h => sm K fun k => χ h0 * (χ h * ind (dbl h p0 k) b)]
  unfold NN
  rw [← sm_mul]
  exact sm_congr fun h _ => by rw [sm_mul]
include hu hl in
theorem Full.pot {Q : List (List Nat)} {σ : List Nat → Nat} {cl : Bool} (hF : Full up lo Q σ cl) (hQ : ∀ q ∈ Q, q ∈ P24) {p0 : List Nat} (hp : p0 ∈ Q) {h k : List Nat} (gh : Gen up h) (gk : Gen lo k) : dbl h p0 k ∈ Q ∧ (cl = false → σ (dbl h p0 k) = (σ p0 + oddN h) % 2 ∨ (σ p0 ≥ 2)) := by
  have hpP := hQ p0 hp
  have hgen : ∀ {k}, Gen lo k → dbl [0, 1, 2, 3] p0 k ∈ Q ∧ (cl = false → σ (dbl [0, 1, 2, 3] p0 k) = (σ p0) % 2 ∨ (σ p0 ≥ 2)) := by
    intro k gk
    induction gk with
    | one =>
      unfold dbl
      rw [mv_one_l p0 hpP, mv_one_r p0 hpP]
      exact ⟨hp, fun _ => by omega⟩
    | @step k l gk hl' ih =>
      have e : dbl [0, 1, 2, 3] p0 (mv k l) = mv (dbl [0, 1, 2, 3] p0 k) l := (mv_assoc24 (gk.mem hl) (hl l hl')).symm
      rw [e]
      obtain ⟨a, b⟩ := hF _ ih.1 (mv (dbl [0, 1, 2, 3] p0 k) l, 0) (List.mem_append_left _ (List.mem_map.mpr ⟨l, hl', rfl⟩))
      refine ⟨a, fun hc => ?_⟩
      have b' : σ (mv (dbl [0, 1, 2, 3] p0 k) l) = (σ (dbl [0, 1, 2, 3] p0 k) + 0) % 2 := b hc
      rcases ih.2 hc with z | z
      · left; omega
      · right; exact z
  have key : ∀ n : Nat, ∀ h : List Nat, Gen up h → dbl h p0 k ∈ Q ∧ (cl = false → σ (dbl h p0 k) = (σ p0 + oddN h) % 2 ∨ (σ p0 ≥ 2)) := by
    intro _ h gh
    have left : ∀ {g : List Nat}, Gen up g → ∀ {q : List Nat}, q ∈ Q → mv g q ∈ Q ∧ (cl = false → σ (mv g q) = (σ q + oddN g) % 2 ∨ (σ q ≥ 2)) := by
      intro g gg
      induction gg with
      | one =>
        intro q hq
        rw [mv_one_l q (hQ q hq), odd_one]
        exact ⟨hq, fun _ => by omega⟩
      | @step g u gg hu' ih =>
        intro q hq
        rw [mv_assoc24 (hu u hu') (hQ q hq)]
        obtain ⟨a, b⟩ := hF q hq (mv u q, oddN u) (List.mem_append_right _ (List.mem_map.mpr ⟨u, hu', rfl⟩))
        have a' : mv u q ∈ Q := a
        obtain ⟨c, d⟩ := ih a'
        refine ⟨c, fun hc => ?_⟩
        have b' : σ (mv u q) = (σ q + oddN u) % 2 := b hc
        have hodd := odd_mv g (gg.mem hu) u (hu u hu')
        rcases d hc with z | z
        · left; omega
        · omega
    have e : dbl h p0 k = mv h (dbl [0, 1, 2, 3] p0 k) := by
      unfold dbl
      rw [mv_one_l p0 hpP, mv_assoc24 hpP (gk.mem hl)]
    obtain ⟨a, b⟩ := hgen gk
    obtain ⟨c, d⟩ := left gh a
    rw [e]
    refine ⟨c, fun hc => ?_⟩
    rcases b hc with z | z
    · rcases d hc with z2 | z2
      · left; omega
      · omega
    · right; exact z
  exact key 0 h gh
end

section
variable {up lo H K : List (List Nat)} (hu : ∀ o ∈ up, o ∈ P24) (hl : ∀ o ∈ lo, o ∈ P24) (gH : IsGroup up H) (gK : IsGroup lo K) {χ : List Nat → Int} (hχ : Sgn χ)
include hu hl gH gK hχ in
theorem class_steady {Q : List (List Nat)} {p0 : List Nat} (hn : Q.Nodup) (hQ : ∀ q ∈ Q, q ∈ P24) (h0 : p0 ∈ Q) (hr : ∀ q ∈ Q, ∃ h ∈ H, ∃ k ∈ K, q = dbl h p0 k) (hc : ∀ h ∈ H, ∀ k ∈ K, dbl h p0 k ∈ Q)
    (hs : ∀ h ∈ H, ∀ k ∈ K, ∀ h' ∈ H, ∀ k' ∈ K, dbl h p0 k = dbl h' p0 k' → χ h = χ h') : (sm Q fun p => NN H K χ p p) = (H.length : Int) * (K.length : Int) := by
  have e1 : (sm Q fun p => NN H K χ p p) = sm Q fun p => sm H fun h => sm K fun k => ind (dbl h p0 k) p := by
    refine sm_congr fun p hp => ?_
    obtain ⟨h1, m1, k1, n1, rfl⟩ := hr p hp
    rw [NN_move hu hl gH gK hχ (hQ p0 h0) m1 n1]
    unfold NN
    rw [← sm_mul]
    refine sm_congr fun h hh => ?_
    rw [← sm_mul]
    refine sm_congr fun k hk => ?_
    unfold ind
    by_cases e : dbl h p0 k = dbl h1 p0 k1
    · rw [if_pos e, Int.mul_one, hs h hh k hk h1 m1 k1 n1 e, hχ.sq h1 (gH.sub h1 m1)]
    · rw [if_neg e, Int.mul_zero, Int.mul_zero]
  rw [e1, sm_swap]
  have e2 : (sm H fun h => sm Q fun p => sm K fun k => ind (dbl h p0 k) p) = sm H fun _ => (K.length : Int) := by
    refine sm_congr fun h hh => ?_
    rw [sm_swap]
    have : (sm K fun k => sm Q fun p => ind (dbl h p0 k) p) = sm K fun _ => 1 := sm_congr fun k hk => sm_ind hn (hc h hh k hk)
    rw [this, sm_one]
  rw [e2, sm_const]
include hu hl gH gK hχ in
theorem class_clash {Q : List (List Nat)} {p0 : List Nat} (hQ : ∀ q ∈ Q, q ∈ P24) (h0 : p0 ∈ Q) (hr : ∀ q ∈ Q, ∃ h ∈ H, ∃ k ∈ K, q = dbl h p0 k) {a b : List Nat} (ha : a ∈ H) (hb : b ∈ K) (hab : dbl a p0 b = p0) (hx : χ a = -1) : (sm Q fun p => NN H K χ p p) = 0 := by
  have z : ∀ b', NN H K χ p0 b' = 0 := fun b' => by
    have h := NN_move hu hl gH gK hχ (hQ p0 h0) ha hb b'
    rw [hab, hx] at h
    omega
  have : (sm Q fun p => NN H K χ p p) = sm Q fun _ => 0 := by
    refine sm_congr fun p hp => ?_
    obtain ⟨h1, m1, k1, n1, rfl⟩ := hr p hp
    rw [NN_move hu hl gH gK hχ (hQ p0 h0) m1 n1, z, Int.mul_zero]
  rw [this, sm_zero]
noncomputable def fixN (h k : List Nat) : Nat := (P24.filter fun p => decide (mv (mv h p) k = p)).length
theorem fix_sum (H K : List (List Nat)) (χ : List Nat → Int) : (sm H fun h => sm K fun k => χ h * (fixN h k : Nat)) = sm P24 fun p => NN H K χ p p := by
  have e : ∀ h k, ((fixN h k : Nat) : Int) = sm P24 fun p => ind (dbl h p k) p := fun h k => by
    unfold fixN
    rw [sm_filter]
    refine sm_congr fun p _ => ?_
    unfold ind dbl
    by_cases c : mv (mv h p) k = p
    · rw [if_pos c, if_pos (decide_eq_true c)]
    · rw [if_neg c, if_neg (by rw [decide_eq_false c]; exact Bool.false_ne_true)]
  unfold NN
  have e1 : (sm H fun h => sm K fun k => χ h * (fixN h k : Nat)) = sm H fun h => sm P24 fun p => sm K fun k => χ h * ind (dbl h p k) p := by
    refine sm_congr fun h _ => ?_
    rw [sm_swap]
    refine sm_congr fun k _ => ?_
    rw [e, sm_mul]
  rw [e1, sm_swap]
theorem allOf_nd : ∀ (orbs : Orbits), (allOf orbs).Nodup → ∀ o ∈ orbs, o.1.Nodup
  | [], _, o, ho => by cases ho
  | x :: r, h, o, ho => by
    have h' : (x.1 ++ allOf r).Nodup := h
    obtain ⟨a, b, _⟩ := List.nodup_append.mp h'
    rcases List.mem_cons.mp ho with rfl | ho
    · exact a
    · exact allOf_nd r b o ho
include hu hl gH gK in
theorem burn {orbs : Orbits} {sym : List Nat → Int} {ms : List (List Nat)} {st : Nat} (hO : Orbs up lo orbs sym ms st) (hall : ∀ p ∈ P24, p ∈ allOf orbs) :
    (sm H fun h => sm K fun k => (fixN h k : Int)) = (ms.length : Int) * ((H.length : Int) * (K.length : Int)) ∧ (sm H fun h => sm K fun k => chi h * (fixN h k : Nat)) = (st : Int) * ((H.length : Int) * (K.length : Int)) := by
  have hperm : P24.Perm (allOf orbs) := (List.perm_ext_iff_of_nodup P24_nodup hO.nd).mpr fun p => ⟨hall p, hO.sub p⟩
  have hnd := allOf_nd orbs hO.nd
  have reach : ∀ {p0 q e}, Reach up lo p0 q e → ∃ h ∈ H, ∃ k ∈ K, q = dbl h p0 k ∧ e = oddN h := fun ⟨h, k, gh, gk, e1, e2⟩ => ⟨h, (gH.iff h).mpr gh, k, (gK.iff k).mpr gk, e1, e2⟩
  constructor
  · have e0 : (sm H fun h => sm K fun k => (fixN h k : Int)) = sm H fun h => sm K fun k => (fun _ => 1) h * ((fixN h k : Nat) : Int) := sm_congr fun h _ => sm_congr fun k _ => (Int.one_mul _).symm
    rw [e0, fix_sum H K fun _ => 1, sm_perm hperm]
    unfold allOf
    rw [sm_flat]
    have : (sm orbs fun o => sm o.1 fun p => NN H K (fun _ => 1) p p) = sm orbs fun _ => (H.length : Int) * (K.length : Int) := by
      refine sm_congr fun o ho => ?_
      obtain ⟨p0, σ, h1, h2, h3, h4, h5⟩ := hO.each o ho
      refine class_steady hu hl gH gK one_sgn (hnd o ho) h2 h1 (fun q hq => ?_) (fun h hh k hk => (Full.pot hu hl h4 h2 h1 (gH.gen h hh) (gK.gen k hk)).1) fun _ _ _ _ _ _ _ _ _ => rfl
      obtain ⟨h, m, k, n, e, _⟩ := reach (h3 q hq)
      exact ⟨h, m, k, n, e⟩
    rw [this, sm_const, hO.ms.length]
  · rw [fix_sum H K chi, sm_perm hperm]
    unfold allOf
    rw [sm_flat]
    have : (sm orbs fun o => sm o.1 fun p => NN H K chi p p) = sm orbs fun o => (if (!o.2) = true then 1 else 0) * ((H.length : Int) * (K.length : Int)) := by
      refine sm_congr fun o ho => ?_
      obtain ⟨p0, σ, h1, h2, h3, h4, h5⟩ := hO.each o ho
      have hr : ∀ q ∈ o.1, ∃ h ∈ H, ∃ k ∈ K, q = dbl h p0 k := fun q hq => by
        obtain ⟨h, m, k, n, e, _⟩ := reach (h3 q hq)
        exact ⟨h, m, k, n, e⟩
      cases hcl : o.2 with
      | false =>
        rw [if_pos (show (!false) = true from rfl), Int.one_mul]
        have pot : ∀ h ∈ H, ∀ k ∈ K, σ (dbl h p0 k) = (σ p0 + oddN h) % 2 := fun h hh k hk => by
          have := (Full.pot hu hl h4 h2 h1 (gH.gen h hh) (gK.gen k hk)).2 hcl
          have := (h3 p0 h1).lt
          omega
        refine class_steady hu hl gH gK chi_sgn (hnd o ho) h2 h1 hr (fun h hh k hk => (Full.pot hu hl h4 h2 h1 (gH.gen h hh) (gK.gen k hk)).1) fun h hh k hk h' hh' k' hk' e => ?_
        have a := pot h hh k hk
        have b := pot h' hh' k' hk'
        rw [e] at a
        have l1 := oddN_lt h
        have l2 := oddN_lt h'
        have : oddN h = oddN h' := by omega
        unfold chi; rw [this]
      | true =>
        rw [if_neg (show ¬ (!true) = true by decide), Int.zero_mul]
        obtain ⟨q, r0, r1⟩ := h5 hcl
        obtain ⟨ha, ma, ka, na, ea, oa⟩ := reach r0
        obtain ⟨hb, mb, kb, nb, eb, ob⟩ := reach r1
        obtain ⟨i1, i2, i3⟩ := inv_l ha (gH.sub ha ma)
        obtain ⟨j1, j2, j3⟩ := inv_l ka (gK.sub ka na)
        have hp := h2 p0 h1
        have mH : mv (invP ha) hb ∈ H := (gH.iff _).mpr (((gH.gen ha ma).inv hu).mul hu (gH.gen hb mb))
        have mK : mv kb (invP ka) ∈ K := (gK.iff _).mpr ((gK.gen kb nb).mul hl ((gK.gen ka na).inv hl))
        refine class_clash hu hl gH gK chi_sgn h2 h1 hr mH mK ?_ ?_
        · rw [← dbl_dbl i3 (gH.sub hb mb) hp (gK.sub kb nb) j3, ← eb, ea, dbl_dbl i3 (gH.sub ha ma) hp (gK.sub ka na) j3, i1, j2]
          unfold dbl
          rw [mv_one_l p0 hp, mv_one_r p0 hp]
        · have hm := odd_mv (invP ha) i3 hb (gH.sub hb mb)
          have hm2 := odd_mv (invP ha) i3 ha (gH.sub ha ma)
          rw [i1, odd_one] at hm2
          have l1 := oddN_lt (invP ha)
          have : oddN (mv (invP ha) hb) = 1 := by omega
          unfold chi; rw [if_pos this]
    rw [this]
    have e3 : (sm orbs fun o => (if (!o.2) = true then 1 else 0) * ((H.length : Int) * (K.length : Int))) = ((H.length : Int) * (K.length : Int)) * sm orbs fun o => if (!o.2) = true then 1 else 0 := by
      rw [← sm_mul]
      exact sm_congr fun o _ => Int.mul_comm _ _
    have e4 : (sm orbs fun o => if (!o.2) = true then (1 : Int) else 0) = ((orbs.filter fun o => !o.2).length : Nat) := by
      clear this e3 hperm hnd hall hO
      induction orbs with
      | nil => rfl
      | cons o r ih =>
        rw [sm_cons, ih, List.filter_cons]
        by_cases h : (!o.2) = true
        · rw [if_pos h, if_pos h, List.length_cons]; omega
        · rw [if_neg h, if_neg h]; omega
    rw [e3, e4, ← hO.st, Int.mul_comm]
end

noncomputable def cnt (p : List Nat) : List Nat := (wsT p).count
noncomputable def signC (c : List Nat) : Int := signI ⟨c, 0, 0, c.sum⟩
theorem fix_eq1 : ∀ h ∈ P24.take 6, ∀ k ∈ P24, fixN h k = if cnt h = cnt k then zc (cnt h) else 0 := by decide +kernel
theorem fix_eq2 : ∀ h ∈ (P24.drop 6).take 6, ∀ k ∈ P24, fixN h k = if cnt h = cnt k then zc (cnt h) else 0 := by decide +kernel
theorem fix_eq3 : ∀ h ∈ (P24.drop 12).take 6, ∀ k ∈ P24, fixN h k = if cnt h = cnt k then zc (cnt h) else 0 := by decide +kernel
theorem fix_eq4 : ∀ h ∈ P24.drop 18, ∀ k ∈ P24, fixN h k = if cnt h = cnt k then zc (cnt h) else 0 := by decide +kernel
theorem fix_eq {h k : List Nat} (hh : h ∈ P24) (hk : k ∈ P24) : fixN h k = if cnt h = cnt k then zc (cnt h) else 0 := by
  have e : P24 = P24.take 6 ++ ((P24.drop 6).take 6 ++ ((P24.drop 12).take 6 ++ P24.drop 18)) := by decide
  rw [e] at hh
  rcases List.mem_append.mp hh with q | q
  · exact fix_eq1 h q k hk
  rcases List.mem_append.mp q with q | q
  · exact fix_eq2 h q k hk
  rcases List.mem_append.mp q with q | q
  · exact fix_eq3 h q k hk
  · exact fix_eq4 h q k hk
theorem sign_eq : ∀ h ∈ P24, signC (cnt h) = chi h := by decide +kernel
theorem signI_eq {st : WSt} (h1 : st.b = 0) (h2 : st.nt = st.count.sum) : signI st = signC st.count := by
  unfold signC signI indent
  rw [h1, h2]
noncomputable def psi (qs : List (List Nat)) (c : List Nat) : Int := (qs.map fun q => if c = cnt q then ((zc c : Nat) : Int) else 0).sum
section
variable {P : Params} {ks ks2 : List KD} {ps qs : List (List Nat)} (K1 : KOK P ks) (hs1 : ∀ φ, sumK ks φ = (ps.map fun p => φ (wsT p).count).sum) (hs2 : ∀ φ, sumK ks2 φ = (qs.map fun p => φ (wsT p).count).sum) (hps : ∀ p ∈ ps, p ∈ P24) (hqs : ∀ p ∈ qs, p ∈ P24)
include hs2 in
theorem row_eq (k : KD) : rowP k ks2 = (k.n : Int) * psi qs k.st.count := by
  have h := hs2 fun c' => if k.st.count = c' then ((zc k.st.count : Nat) : Int) else 0
  have e : rowP k ks2 = (k.n : Int) * sumK ks2 (fun c' => if k.st.count = c' then ((zc k.st.count : Nat) : Int) else 0) := by
    have := sm_mul ks2 (k.n : Int) fun k' => (k'.n : Int) * (if k.st.count = k'.st.count then ((zc k.st.count : Nat) : Int) else 0)
    show sm ks2 (tmK k) = _
    refine Eq.trans (sm_congr fun k' _ => ?_) this
    unfold tmK
    split
    · rw [Int.mul_assoc]
    · simp
  rw [e, h]; rfl
include hqs in
theorem psi_eq {p : List Nat} (hp : p ∈ P24) : psi qs (cnt p) = sm qs fun q => ((fixN p q : Nat) : Int) := by
  show sm qs _ = _
  refine sm_congr fun q hq => ?_
  rw [fix_eq hp (hqs q hq)]
  split <;> rfl
include hs1 hs2 hps hqs in
theorem PS_eq : PS ks ks2 = sm ps fun h => sm qs fun k => ((fixN h k : Nat) : Int) := by
  have e : PS ks ks2 = sumK ks (psi qs) := by
    show sm ks _ = sm ks _
    exact sm_congr fun k _ => row_eq hs2 k
  rw [e, hs1]
  show sm ps (fun p => psi qs (cnt p)) = _
  exact sm_congr fun p hp => psi_eq hqs (hps p hp)
include K1 hs1 hs2 hps hqs in
theorem SS_eq : SS ks ks2 = sm ps fun h => sm qs fun k => chi h * ((fixN h k : Nat) : Int) := by
  have e : SS ks ks2 = sumK ks (fun c => signC c * psi qs c) := by
    show sm ks _ = sm ks _
    refine sm_congr fun k hk => ?_
    obtain ⟨p, hp, hkp⟩ := K1.of k hk
    obtain ⟨_, f2, f3⟩ := wsT_facts p hp
    rw [← hkp] at f2 f3
    rw [row_eq hs2 k, signI_eq f2 f3, Int.mul_left_comm]
  rw [e, hs1]
  show sm ps (fun p => signC (cnt p) * psi qs (cnt p)) = _
  refine sm_congr fun p hp => ?_
  rw [psi_eq hqs (hps p hp), sign_eq p (hps p hp), sm_mul]
end

noncomputable section
noncomputable def I27 : { s : Stmt // (forBody S27.1)[0]? = some s } := ⟨_, rfl⟩
noncomputable def B27 : { s : Stmt // (forBody I27.1)[0]? = some s } := ⟨_, rfl⟩
noncomputable def Z27 : { s : Stmt // (ifBody B27.1)[2]? = some s } := ⟨_, rfl⟩
end
theorem ws_keepI (P : Params) : keepIn (KF P) (.ref 52) = true := by kernel_rfl
theorem ws_isfnI (P : Params) : isFn (KF P) (.ref 52) = true := by kernel_rfl
theorem ws_pgI (P : Params) : plainGet (KF P) 83 (Str.ofString "indent_level") = true := by kernel_rfl
inductive PZ (z : Int) (vT : Value) (N : Led) : Vals → Led → Prop where
  | mk (t : Tok) (z1 z2 : Option Value) : PZ z vT N [some (.int z t), some vT, z1, z2] N
inductive JZ (w0 : Int) (count : List Nat) (vT : Value) (q : Addr × MO) (N : Led) (j : Nat) : Vals → Led → Prop where
  | mk (t : Tok) (z1 z2 : Option Value) : JZ w0 count vT q N j [some (.int (w0 * (zB count j : Nat)) t), some vT, z1, z2] (q :: N)
inductive JY (w0 : Int) (count : List Nat) (vT vS : Value) (q q2 : Addr × MO) (N : Led) (j i : Nat) : Vals → Led → Prop where
  | mk (t : Tok) (z2 : Option Value) : JY w0 count vT vS q q2 N j i [some (.int (w0 * (zB count j * zA (j + 1) i : Nat)) t), some vT, some vS, z2] (q2 :: q :: N)
theorem JZ.zero (w0 : Int) (count : List Nat) (vT : Value) (q : Addr × MO) (N : Led) (t : Tok) (z1 z2 : Option Value) : JZ w0 count vT q N 0 [some (.int w0 t), some vT, z1, z2] (q :: N) := by
  have h := JZ.mk (w0 := w0) (count := count) (vT := vT) (q := q) (N := N) (j := 0) t z1 z2
  rwa [show ((zB count 0 : Nat) : Int) = 1 from rfl, Int.mul_one] at h
theorem JZ.end_ {w0 : Int} {count : List Nat} {vT : Value} {q : Addr × MO} {N : Led} {v : Vals} {n : Led} (h : JZ w0 count vT q N (count.length - 1) v n) : n = q :: N ∧ PZ (w0 * (zc count : Nat)) vT N v N := by
  cases h; exact ⟨rfl, _, _, _⟩
theorem JY.zero (w0 : Int) (count : List Nat) (vT vS : Value) (q q2 : Addr × MO) (N : Led) (j : Nat) (t : Tok) (z2 : Option Value) : JY w0 count vT vS q q2 N j 0 [some (.int (w0 * (zB count j : Nat)) t), some vT, some vS, z2] (q2 :: q :: N) := by
  have h := JY.mk (w0 := w0) (count := count) (vT := vT) (vS := vS) (q := q) (q2 := q2) (N := N) (j := j) (i := 0) t z2
  rwa [show zB count j * zA (j + 1) 0 = zB count j from Nat.mul_one _] at h
theorem JY.next (w0 : Int) (count : List Nat) (vT vS : Value) (q q2 : Addr × MO) (N : Led) (j i : Nat) (t : Tok) (z2 : Option Value) : JY w0 count vT vS q q2 N j (i + 1) [some (.int (w0 * (zB count j * zA (j + 1) i : Nat) * ((1 : Int) + j) * ((i : Int) + 1)) t), some vT, some vS, z2] (q2 :: q :: N) := by
  have h := JY.mk (w0 := w0) (count := count) (vT := vT) (vS := vS) (q := q) (q2 := q2) (N := N) (j := j) (i := i + 1) t z2
  have e : w0 * (zB count j * zA (j + 1) (i + 1) : Nat) = w0 * (zB count j * zA (j + 1) i : Nat) * ((1 : Int) + j) * ((i : Int) + 1) := by
    rw [show (1 : Int) + (j : Int) = ((j + 1 : Nat) : Int) by omega, show ((i : Int) + 1) = ((i + 1 : Nat) : Int) from rfl]
    simp only [zA, Int.natCast_mul, Int.mul_assoc]
  rwa [e] at h
theorem JY.end_ {w0 : Int} {count : List Nat} {vT vS : Value} {q q2 : Addr × MO} {N : Led} {j i : Nat} (hi : count.getD (j + 1) 0 = i) {v : Vals} {n : Led} (h : JY w0 count vT vS q q2 N j i v n) : n = q2 :: q :: N ∧ JZ w0 count vT q N (j + 1) v (q :: N) := by
  obtain ⟨t, z2⟩ := h
  refine ⟨rfl, ?_⟩
  rw [← hi]
  exact JZ.mk (j := j + 1) t (some vS) z2
theorem phZ {X : LX} (G : Ok (LC X (Str.ofString "weight" :: Str.ofString "runs" :: Str.ofString "size" :: Str.ofString "alike" :: []))) (hA : Room X.A 9) (w0 : Int) (tw : Tok) (aT : Addr) (cv : List Value) (count : List Nat) (hcv : Paired IsN cv count) (hc : ∀ c ∈ count, c < 10) (hl : count.length ≤ 10) (N : Led) (hmT : (aT, .tup cv) ∈ N) :
    AW (LC X (Str.ofString "weight" :: Str.ofString "runs" :: Str.ofString "size" :: Str.ofString "alike" :: [])) (exec Z27.1 (LC X (Str.ofString "weight" :: Str.ofString "runs" :: Str.ofString "size" :: Str.ofString "alike" :: [])).env) [some (.int w0 tw), some (.ref aT), none, none] N (fun f v n => f = .next ∧ PZ (w0 * (zc count : Nat)) (.ref aT) N v n) := by
  have hcl := hcv.length
  walk_at "hide"
  walk_at "wkh"
  unfold Z27
  dsimp only
  walk_at "for"
  repeat walk_at "aw"
  refine AW.lenT (.inl hmT) (by omega) fun tl1 => ?_
  rename_i t1a
  repeat walk_at "aw"
  refine AW.range2 G fun rg t1 => ?_
  rw [hcl]
  refine ⟨_, _, _, JZ w0 count (.ref aT) _ N, starts_range (a := 1) (b := (count.length : Int)) (by decide) (by omega), by walk_at "one", JZ.zero _ _ _ _ _ _ _ _, ?_, ?_, ?_⟩
  · rintro j v₂ n₃ ⟨tw, z1, z2⟩
    walk_at "one"
  · rintro j hPhi0 hPhi v v₂ n₃ hj ⟨tsz, rfl⟩ ⟨tw, z1, z2⟩
    obtain ⟨cc, hcc⟩ : ∃ cc, count[j + 1]? = some cc := ⟨_, List.getElem?_eq_getElem (by omega)⟩
    obtain ⟨y, hy, ty, rfl⟩ := pget hcv _ _ hcc
    have hccb := hc cc (List.mem_of_getElem? hcc)
    have hccd : count.getD (j + 1) 0 = cc := by rw [List.getD_eq_getElem?_getD, hcc]; rfl
    have ej : ((1 : Int) + (j : Int)).toNat = j + 1 := by omega
    walk_at "aw"
    walk_at "aw"
    walk_at "wkh"
    repeat walk_at "aw"
    walk_at "for"
    repeat walk_at "aw"
    walk_at "tailT"
    refine AW.getT (by walk_at "has") (by omega) (by omega) (by rw [ej]; exact hy) ?_
    repeat walk_at "aw"
    refine AW.range1 G fun rg2 t2 t3 => ?_
    refine ⟨_, _, _, JY w0 count (.ref aT) _ _ _ N j, starts_range (a := 0) (b := (cc : Int)) (by decide) (by omega), by walk_at "one", JY.zero _ _ _ _ _ _ _ _ _ _, ?_, ?_, ?_⟩
    · rintro i2 v₂ n₃ ⟨tw, z2⟩
      walk_at "one"
    · rintro i2 hPhi0 hPhi v v₂ n₃ hi2 ⟨ta, rfl⟩ ⟨tw, z2⟩
      rw [Int.zero_add]
      repeat walk_at "aw"
      refine AW.mulS (by omega) fun _ => ?_
      repeat walk_at "aw"
      refine AW.mulS (by omega) fun tw' => ?_
      repeat walk_at "aw"
      exact JY.next _ _ _ _ _ _ _ _ _ _ _
    · rintro v₂ n₃ h
      obtain ⟨rfl, h2⟩ := h.end_ hccd
      repeat walk_at "aw"
      exact ⟨_, _, .refl _, .cons _ (.refl _), h2⟩
  · rintro v₂ n₃ h
    have hcp : ((count.length : Int) - 1).toNat = count.length - 1 := by omega
    rw [hcp] at h
    obtain ⟨rfl, h2⟩ := h.end_
    walk_at "leaf"
    exact ⟨_, _, .refl _, .cons _ (.refl _), rfl, h2⟩

/-- the row of one kind, so far -/
inductive JI (k : KD) (ks2 : List KD) (vK : Value) (p0 s0 : Int) (M : Led) (i : Nat) : Vals → Led → Prop where
  | mk (tp ts : Tok) (z1 z2 z3 z4 z5 z6 z7 : Option Value) : JI k ks2 vK p0 s0 M i [some vK, some (.ref k.x), some (.int (k.n : Nat) k.tn), some (.int (p0 + rowP k (ks2.take i)) tp), some (.int (s0 + signI k.st * rowP k (ks2.take i)) ts), z1, z2, z3, z4, z5, z6, z7] M
theorem JI.zero (k : KD) (ks2 : List KD) (vK : Value) (p0 s0 : Int) (M : Led) (tp ts : Tok) : JI k ks2 vK p0 s0 M 0 [some vK, some (.ref k.x), some (.int (k.n : Nat) k.tn), some (.int p0 tp), some (.int s0 ts), none, none, none, none, none, none, none] M := by
  have h := JI.mk (k := k) (ks2 := ks2) (vK := vK) (p0 := p0) (s0 := s0) (M := M) (i := 0) tp ts none none none none none none none
  rwa [show rowP k (ks2.take 0) = 0 from rfl, Int.mul_zero, Int.add_zero, Int.add_zero] at h
theorem JI.add {k : KD} {ks2 : List KD} {vK : Value} {p0 s0 : Int} {M : Led} {i : Nat} {k' : KD} (hk : ks2[i]? = some k') {x s : Int} (hx : tmK k k' = x) (hs : signI k.st * x = s) (tp ts : Tok) (z1 z2 z3 z4 z5 z6 z7 : Option Value) :
    JI k ks2 vK p0 s0 M (i + 1) [some vK, some (.ref k.x), some (.int (k.n : Nat) k.tn), some (.int (p0 + rowP k (ks2.take i) + x) tp), some (.int (s0 + signI k.st * rowP k (ks2.take i) + s) ts), z1, z2, z3, z4, z5, z6, z7] M := by
  have h := JI.mk (k := k) (ks2 := ks2) (vK := vK) (p0 := p0) (s0 := s0) (M := M) (i := i + 1) tp ts z1 z2 z3 z4 z5 z6 z7
  rwa [show rowP k (ks2.take (i + 1)) = rowP k (ks2.take i) + x by rw [List.take_add_one, hk, ← hx]; exact rowP_snoc _ _ _, Int.mul_add, hs, ← Int.add_assoc, ← Int.add_assoc] at h
theorem JI.same {k : KD} {ks2 : List KD} {vK : Value} {p0 s0 : Int} {M : Led} {i : Nat} {k' : KD} (hk : ks2[i]? = some k') (hc : ¬ k.st.count = k'.st.count) (tp ts : Tok) (z1 z2 z3 z4 z5 z6 z7 : Option Value) :
    JI k ks2 vK p0 s0 M (i + 1) [some vK, some (.ref k.x), some (.int (k.n : Nat) k.tn), some (.int (p0 + rowP k (ks2.take i)) tp), some (.int (s0 + signI k.st * rowP k (ks2.take i)) ts), z1, z2, z3, z4, z5, z6, z7] M := by
  have h := JI.add (vK := vK) (p0 := p0) (s0 := s0) (M := M) hk (if_neg hc) (Int.mul_zero _) tp ts z1 z2 z3 z4 z5 z6 z7
  rwa [Int.add_zero, Int.add_zero] at h
structure IK (P : Params) (M : Led) (k : KD) : Prop where
  of : ∃ p ∈ P24, k.st = wsT p
  n : k.n ≤ 24
  tl : ∀ q ∈ k.tl, q ∈ M
  ws : WSat P k.x k.st k.tl
theorem IK.facts {P : Params} {M : Led} {k : KD} (h : IK P M k) : k.st.b = 0 ∧ k.st.count.length ≤ 10 ∧ (∀ c ∈ k.st.count, c < 10) := by
  obtain ⟨p, hp, e⟩ := h.of
  rw [e]; exact ⟨(wsT_facts p hp).2.1, (wsT_small p hp).1, (wsT_small p hp).2.1⟩
theorem IK.eq {P : Params} {M : Led} {k k' : KD} (h : IK P M k) (h' : IK P M k') : (decide (k.st.count = k'.st.count) && decide (k.st.b = k'.st.b)) = decide (k.st.count = k'.st.count) := by
  rw [decide_eq_true (h.facts.1.trans h'.facts.1.symm), Bool.and_true]
theorem IK.spec {w : World} {M : Led} {k : KD} (h : IK w.params M k) (ts : Nat) (hts : ts ∈ [1, 2]) (tt : Tok) : Spec w 1 (.ref 52) [.ref k.x, .int ((ts : Nat) : Int) tt] k.tl (OneR fun t => .int (indent k.st ts) t) := by
  obtain ⟨p, hp, e⟩ := h.of
  obtain ⟨g1, g2, g3, g4⟩ := wsT_small p hp
  rw [← e] at g1 g2 g3 g4
  have hts' : 1 ≤ ts ∧ ts ≤ 8 := by
    simp at hts; omega
  exact indent_spec w k.x k.st k.tl k.tl ts tt h.ws (fun _ h => h) hts'.1 hts'.2 (Nat.le_trans g1 (by decide)) (fun c hc => Nat.lt_trans (g2 c hc) (by decide)) (Nat.lt_trans g3 (by decide)) fun i hi => Nat.lt_trans (g4 ts hts i (List.mem_range.mpr (by omega))) (by decide)
theorem KOK.ik {P : Params} {M : Led} {ks : List KD} (K : KOK P ks) (hk2 : ∀ k ∈ ks, k.n ≤ 24) (hKL : ∀ p ∈ KL ks, p ∈ M) {k : KD} (hk : k ∈ ks) : IK P M k := ⟨K.of k hk, hk2 k hk, fun q hq => hKL q ((kmem hk).2 q hq), K.ws k hk⟩
theorem sgn_odd {st : WSt} (h : (((indent st 2 : Nat) : Int) - ((indent st 1 : Nat) : Int)).fmod 2 = 1) (x : Int) : signI st * x = -x := by
  unfold signI; rw [if_pos h]; omega
theorem sgn_even {st : WSt} (h : ¬ (((indent st 2 : Nat) : Int) - ((indent st 1 : Nat) : Int)).fmod 2 = 1) (x : Int) : signI st * x = x := by
  unfold signI; rw [if_neg h]; omega
theorem phI {X : LX} (G : Ok (LC X (Str.ofString "others" :: Str.ofString "told" :: Str.ofString "often" :: Str.ofString "plain_sum" :: Str.ofString "signed_sum" :: Str.ofString "other" :: Str.ofString "times" :: Str.ofString "weight" :: Str.ofString "runs" :: Str.ofString "left" :: Str.ofString "size" :: Str.ofString "alike" :: []))) (hA : Room X.A 9) (aK : Addr) (k : KD) (M : Led) (hI : IK X.w.params M k) (ks2 : List KD) (hmK : (aK, .list (ks2.map fun k => Value.ref k.a)) ∈ M) (hKL : ∀ p ∈ KL ks2, p ∈ M) (K2 : KOK X.w.params ks2) (hk2 : ∀ k ∈ ks2, k.n ≤ 24) (p0 s0 : Int) (v : Vals) (h0 : JI k ks2 (.ref aK) p0 s0 M 0 v M) :
    AW (LC X (Str.ofString "others" :: Str.ofString "told" :: Str.ofString "often" :: Str.ofString "plain_sum" :: Str.ofString "signed_sum" :: Str.ofString "other" :: Str.ofString "times" :: Str.ofString "weight" :: Str.ofString "runs" :: Str.ofString "left" :: Str.ofString "size" :: Str.ofString "alike" :: [])) (exec I27.1 (LC X (Str.ofString "others" :: Str.ofString "told" :: Str.ofString "often" :: Str.ofString "plain_sum" :: Str.ofString "signed_sum" :: Str.ofString "other" :: Str.ofString "times" :: Str.ofString "weight" :: Str.ofString "runs" :: Str.ofString "left" :: Str.ofString "size" :: Str.ofString "alike" :: [])).env) v M (fun f v n => f = .next ∧ JI k ks2 (.ref aK) p0 s0 M ks2.length v n) := by
  obtain ⟨dx, aN1, aT, cv, l, tb, tq, d1, d2, d3, d4, d5, d6, d7, d8, d9⟩ := hI.ws.has (H := fun p => p ∈ M) hI.tl
  obtain ⟨f1, f2, f3⟩ := hI.facts
  walk_at "hide"
  unfold I27
  dsimp only
  walk_at "for"
  cases h0
  repeat walk_at "aw"
  refine ⟨[(aK, .list (ks2.map fun k => Value.ref k.a))], _, _, JI k ks2 (.ref aK) p0 s0 M, starts_listT ?_, by walk_at "one", ⟨_, _, _, _, _, _, _, _, _⟩, ?_, ?_, ?_⟩
  · intro v hv
    obtain ⟨k, _, e⟩ := List.mem_map.mp hv
    exact ⟨_, e.symm⟩
  · rintro i v₂ n₂ ⟨_⟩
    walk_at "one"
  · rintro i hPhi0 hPhi v v₂ n₂ hi hv ⟨tp, ts, z1, z2, z3, z4, z5, z6, z7⟩
    obtain ⟨k', hk, rfl⟩ : ∃ k, ks2[i]? = some k ∧ Value.ref k.a = v := by
      rw [List.getElem?_map] at hv
      exact Option.map_eq_some_iff.mp hv
    have hkm := List.mem_of_getElem? hk
    have hmk : (k'.a, MO.list [.ref k'.x, .int k'.n k'.tn]) ∈ M := hKL _ (kmem hkm).1
    have hI' := K2.ik hk2 hKL hkm
    have hkn' := hI'.n
    with_reducible refine' AW.unpackL G ?k0 ?k1 ?k2 ?k3 ?_
    case k0 => exact Or.inl hmk
    case k1 => rfl
    case k2 => rfl
    case k3 => rfl
    repeat walk_at "aw"
    with_reducible refine' AW.callI (f := 59) (C := 83) G ?k1 ?k2 ?k3 ?k4 ?k5 ?k6 ?k7 ?_
    case k1 => rfl
    case k2 => rfl
    case k3 => rfl
    case k4 => exact ws_pg _
    case k5 => exact ws_equal _
    case k6 => exact ws_isfn _
    case k7 => exact ws_keep _
    repeat walk_at "aw"
    refine ⟨k.x, dx, l, 5, rfl, .inl d1, .inl d2, d8, ?_⟩
    repeat walk_at "aw"
    refine AW.callO (equal_spec _ k.x k'.x k.st k'.st k.tl k'.tl (k.tl ++ k'.tl) hI.ws hI'.ws (fun p hp => List.mem_append_left _ hp) (fun p hp => List.mem_append_right _ hp)) (hA.less (by decide)) G (fun p hp => .inl ((List.mem_append.mp hp).elim (hI.tl p) (hI'.tl p))) fun _ => ?_
    rw [hI.eq hI']
    repeat walk_at "aw"
    by_cases hc : k.st.count = k'.st.count
    · refine ifD hc ?_
      repeat walk_at "aw"
      refine AW.mulS (by omega) fun tw0 => ?_
      repeat walk_at "aw"
      walk_at "attr"
      repeat walk_at "aw"
      refine AW.instGet G (.inl d1) (.inl d2) (ws_norm _) d6 rfl ?_
      with_reducible refine' AW.unpack2 (by assumption) ?k0 ?k1 ?k2 ?k3 ?_
      case k0 => exact Or.inl d3
      case k1 => rfl
      case k2 => rfl
      case k3 => rfl
      repeat walk_at "aw"
      refine AW.exL (Ψ := PZ _ _ _) ((Str.ofString "weight" :: Str.ofString "runs" :: Str.ofString "size" :: Str.ofString "alike" :: [])) (by decide +kernel) ?hv (fun old => phZ (X := X.at old) (okL G (by decide +kernel)) hA (((k.n : Nat) : Int) * ((k'.n : Nat) : Int)) tw0 aT cv k.st.count d5 f3 f2 M d4) ?_
      case hv => walk_at "lookall"
      rintro _ _ ⟨tw, y1, y2⟩
      walk_at "bk"
      walk_at "go"
      repeat walk_at "aw"
      with_reducible refine' AW.callI (f := 52) (C := 83) G ?k1 ?k2 ?k3 ?k4 ?k5 ?k6 ?k7 ?_
      case k1 => rfl
      case k2 => rfl
      case k3 => rfl
      case k4 => exact ws_pgI _
      case k5 => exact ws_indent _
      case k6 => exact ws_isfnI _
      case k7 => exact ws_keepI _
      repeat walk_at "aw"
      refine ⟨k.x, dx, l, 5, rfl, .inl d1, .inl d2, d9, ?_⟩
      repeat walk_at "aw"
      refine AW.callO (hI.spec 2 (by decide) _) (hA.less (by decide)) G (fun p hp => .inl (hI.tl p hp)) fun _ => ?_
      repeat walk_at "aw"
      with_reducible refine' AW.callI (f := 52) (C := 83) G ?k1 ?k2 ?k3 ?k4 ?k5 ?k6 ?k7 ?_
      case k1 => rfl
      case k2 => rfl
      case k3 => rfl
      case k4 => exact ws_pgI _
      case k5 => exact ws_indent _
      case k6 => exact ws_isfnI _
      case k7 => exact ws_keepI _
      repeat walk_at "aw"
      refine ⟨k.x, dx, l, 5, rfl, .inl d1, .inl d2, d9, ?_⟩
      repeat walk_at "aw"
      refine AW.callO (hI.spec 1 (by decide) _) (hA.less (by decide)) G (fun p hp => .inl (hI.tl p hp)) fun _ => ?_
      repeat walk_at "aw"
      refine AW.modI (by decide) fun _ => ?_
      repeat walk_at "aw"
      by_cases hodd : (((indent k.st 2 : Nat) : Int) - ((indent k.st 1 : Nat) : Int)).fmod 2 = 1
      · refine ifT (by rw [hodd]; rfl) ?_
        repeat walk_at "aw"
        exact JI.add hk (if_pos hc) (sgn_odd hodd _) _ _ _ _ _ _ _ _ _
      · refine ifN (by simpa using hodd) ?_
        repeat walk_at "aw"
        exact JI.add hk (if_pos hc) (sgn_even hodd _) _ _ _ _ _ _ _ _ _
    · refine ifE hc ?_
      repeat walk_at "aw"
      exact JI.same hk hc _ _ _ _ _ _ _ _ _
  · intro v₂ n₂ h
    walk_at "leaf"
    rw [List.length_map] at h
    exact ⟨rfl, h⟩

inductive J27 (vR vU vK : Value) (ks ks2 : List KD) (N : Led) (i : Nat) : Vals → Led → Prop where
  | mk (tp ts : Tok) (z0 z8 z1 z2 z3 z4 z5 z6 z7 : Option Value) : J27 vR vU vK ks ks2 N i [some vR, some vU, some vK, z0, z8, some (.int (PS (ks.take i) ks2) tp), some (.int (SS (ks.take i) ks2) ts), z1, z2, z3, z4, z5, z6, z7] N
theorem J27.next {vR vU vK : Value} {ks ks2 : List KD} {N : Led} {i : Nat} {k : KD} (hk : ks[i]? = some k) (tp ts : Tok) (z0 z8 z1 z2 z3 z4 z5 z6 z7 : Option Value) :
    J27 vR vU vK ks ks2 N (i + 1) [some vR, some vU, some vK, z0, z8, some (.int (PS (ks.take i) ks2 + rowP k (ks2.take ks2.length)) tp), some (.int (SS (ks.take i) ks2 + signI k.st * rowP k (ks2.take ks2.length)) ts), z1, z2, z3, z4, z5, z6, z7] N := by
  have h := J27.mk (vR := vR) (vU := vU) (vK := vK) (ks := ks) (ks2 := ks2) (N := N) (i := i + 1) tp ts z0 z8 z1 z2 z3 z4 z5 z6 z7
  rw [List.take_add_one, hk] at h
  rw [List.take_length]
  exact PS_snoc _ _ _ ▸ SS_snoc _ _ _ ▸ h
inductive P27 (vR vU vK : Value) (P : Params) (ps : List (List Nat)) (ks2 : List KD) (N : Led) : Vals → Led → Prop where
  | mk (ks : List KD) (K : KOK P ks) (hs : ∀ φ, sumK ks φ = (ps.map fun p => φ (wsT p).count).sum) (tp ts : Tok) (z0 z8 z1 z2 z3 z4 z5 z6 z7 : Option Value) : P27 vR vU vK P ps ks2 N [some vR, some vU, some vK, z0, z8, some (.int (PS ks ks2) tp), some (.int (SS ks ks2) ts), z1, z2, z3, z4, z5, z6, z7] N
theorem ph27 {X : LX} (G : Ok (LC X (Str.ofString "rounds" :: Str.ofString "upper" :: Str.ofString "others" :: Str.ofString "told" :: Str.ofString "often" :: Str.ofString "plain_sum" :: Str.ofString "signed_sum" :: Str.ofString "other" :: Str.ofString "times" :: Str.ofString "weight" :: Str.ofString "runs" :: Str.ofString "left" :: Str.ofString "size" :: Str.ofString "alike" :: []))) (hA : Room X.A 9) (aG aK : Addr) (r : Str) (hr : Four r) (h65 : ∀ c, r.cps.toList[0]? = some c → c ≠ 32 ∧ c ≠ 9) (tr t0 t1 : Tok) (N : Led) (gv : List Value) (ps ps2 : List (List Nat)) (hm : (aG, .list gv) ∈ N) (hg : Paired IsStr gv (ps.map (wd r))) (hps : ∀ p ∈ ps, p ∈ P24) (hl : ps.length ≤ 24)
    (ks2 : List KD) (hmK : (aK, .list (ks2.map fun k => Value.ref k.a)) ∈ N) (hKL : ∀ p ∈ KL ks2, p ∈ N) (K2 : KOK X.w.params ks2) (hl2 : ps2.length ≤ 24) (hs2 : ∀ φ, sumK ks2 φ = (ps2.map fun p => φ (wsT p).count).sum) :
    AW (LC X (Str.ofString "rounds" :: Str.ofString "upper" :: Str.ofString "others" :: Str.ofString "told" :: Str.ofString "often" :: Str.ofString "plain_sum" :: Str.ofString "signed_sum" :: Str.ofString "other" :: Str.ofString "times" :: Str.ofString "weight" :: Str.ofString "runs" :: Str.ofString "left" :: Str.ofString "size" :: Str.ofString "alike" :: [])) (exec S27.1 (LC X (Str.ofString "rounds" :: Str.ofString "upper" :: Str.ofString "others" :: Str.ofString "told" :: Str.ofString "often" :: Str.ofString "plain_sum" :: Str.ofString "signed_sum" :: Str.ofString "other" :: Str.ofString "times" :: Str.ofString "weight" :: Str.ofString "runs" :: Str.ofString "left" :: Str.ofString "size" :: Str.ofString "alike" :: [])).env) [some (.str r tr), some (.ref aG), some (.ref aK), none, none, some (.int 0 t0), some (.int 0 t1), none, none, none, none, none, none, none] N (fun f v n => f = .next ∧ P27 (.str r tr) (.ref aG) (.ref aK) X.w.params ps ks2 N v n) := by
  have hk2 := K2.small hl2 hs2
  walk_at "hide"
  walk_at "wkh"
  unfold S27
  dsimp only
  walk_at "for"
  repeat walk_at "aw"
  refine AW.callS (kinds_spec X.w r tr aG gv ps N hm hg hps hl hr h65) (hA.less (by decide)) G (fun p hp => .inl hp) ?_
  rintro v tl ⟨aK2, ks, rfl, rfl, K1, hs1⟩
  have hk1 := K1.small hl hs1
  have hmK' : ∀ {p : Addr × MO}, p ∈ N → p ∈ (aK2, MO.list (ks.map fun k => Value.ref k.a)) :: (KL ks ++ N) := fun h => .tail _ (List.mem_append_right _ h)
  have hKs : ∀ p ∈ KL ks, p ∈ (aK2, MO.list (ks.map fun k => Value.ref k.a)) :: (KL ks ++ N) := fun p h => .tail _ (List.mem_append_left _ h)
  rw [List.cons_append]
  repeat walk_at "aw"
  refine ⟨[(aK2, .list (ks.map fun k => Value.ref k.a))], _, _, J27 (.str r tr) (.ref aG) (.ref aK) ks ks2 ((aK2, .list (ks.map fun k => Value.ref k.a)) :: (KL ks ++ N)), starts_listT ?_, by walk_at "one", ?_, ?_, ?_, ?_⟩
  · intro v hv
    obtain ⟨k, _, e⟩ := List.mem_map.mp hv
    exact ⟨_, e.symm⟩
  · exact ⟨_, _, _, _, _, _, _, _, _, _, _⟩
  · rintro i v₂ n₂ ⟨_⟩
    walk_at "one"
  · rintro i hPhi0 hPhi v v₂ n₂ hi hv ⟨tp, ts, z0, z8, z1, z2, z3, z4, z5, z6, z7⟩
    obtain ⟨k, hk, rfl⟩ : ∃ k, ks[i]? = some k ∧ Value.ref k.a = v := by
      rw [List.getElem?_map] at hv
      exact Option.map_eq_some_iff.mp hv
    have hkm := List.mem_of_getElem? hk
    with_reducible refine' AW.unpackL G ?k0 ?k1 ?k2 ?k3 ?_
    case k0 => exact Or.inl (hKs _ (kmem hkm).1)
    case k1 => rfl
    case k2 => rfl
    case k3 => rfl
    repeat walk_at "aw"
    refine AW.exL (Ψ := JI _ _ _ _ _ _ _) ((Str.ofString "others" :: Str.ofString "told" :: Str.ofString "often" :: Str.ofString "plain_sum" :: Str.ofString "signed_sum" :: Str.ofString "other" :: Str.ofString "times" :: Str.ofString "weight" :: Str.ofString "runs" :: Str.ofString "left" :: Str.ofString "size" :: Str.ofString "alike" :: [])) (by decide +kernel) ?hv
      (fun old => phI (X := X.at old) (okL G (by decide +kernel)) hA aK k _ (K1.ik hk1 hKs hkm) ks2 (hmK' hmK) (fun p hp => hmK' (hKL p hp)) K2 hk2 (PS (ks.take i) ks2) (SS (ks.take i) ks2) _ (JI.zero _ _ _ _ _ _ tp ts)) ?_
    case hv => walk_at "lookall"
    rintro _ _ ⟨tp', ts', y1, y2, y3, y4, y5, y6, y7⟩
    walk_at "bk"
    repeat walk_at "aw"
    exact J27.next hk _ _ _ _ _ _ _ _ _ _ _
  · rintro v₂ n₂ h
    rw [List.length_map] at h
    cases h
    walk_at "leaf"
    rw [List.take_length]
    exact ⟨_, _, .refl _, .cons _ (List.sublist_append_right _ _), rfl, ks, K1, hs1, _, _, _, _, _, _, _, _, _, _, _⟩

theorem AW.and2 {c : Cx} {vals : Vals} {news : Led} {x y : Expr} {pos : Pos} {Φ : Value → Vals → Led → Prop}
    (h : AW c (eval x c.env) vals news fun a v n => AW c (truthy a) v n fun b v n => if b = true then AW c (eval y c.env) v n Φ else Φ a v n) : AW c (eval (.BoolOp .And [x, y] pos) c.env) vals news Φ := by
  intro g s R
  refine wpAny_And2 (AW.then h R fun a s₁ v n R₁ q => AW.then q R₁ fun b s₂ v n R₂ q => ?_)
  cases b
  · exact ⟨v, n, R₂, q⟩
  · exact q g s₂ R₂
inductive P28 (vU vL : Value) (z : Int) (N : Led) : Vals → Led → Prop where
  | mk (t : Tok) : P28 vU vL z N [some vU, some vL, some (.int z t)] N
theorem ph28 {X : LX} (G : Ok (LC X (Str.ofString "upper" :: Str.ofString "lower" :: Str.ofString "both" :: []))) (hA : Room X.A 9) (aG aH : Addr) (gl hl : Nat) (N : Led) (gv hv : List Value) (h1 : (aG, .list gv) ∈ N) (h2 : (aH, .list hv) ∈ N) (hg : gv.length = gl) (hh : hv.length = hl) (hg2 : gl ≤ 24) (hh2 : hl ≤ 24) :
    AW (LC X (Str.ofString "upper" :: Str.ofString "lower" :: Str.ofString "both" :: [])) (exec S28.1 (LC X (Str.ofString "upper" :: Str.ofString "lower" :: Str.ofString "both" :: [])).env) [some (.ref aG), some (.ref aH), none] N (fun f v n => f = .next ∧ P28 (.ref aG) (.ref aH) ((gl : Int) * (hl : Int)) N v n) := by
  walk_at "hide"
  unfold S28
  dsimp only
  repeat walk_at "aw"
  refine AW.lenL (by walk_at "has") (by omega) fun _ => ?_
  repeat walk_at "aw"
  refine AW.lenL (by walk_at "has") (by omega) fun _ => ?_
  rw [hg, hh]
  repeat walk_at "aw"
  refine AW.mulS (by omega) fun _ => ?_
  repeat walk_at "aw"
  exact ⟨rfl, ⟨_⟩⟩
theorem ph29 {X : LX} (G : Ok (LC X (Str.ofString "names" :: Str.ofString "steady" :: Str.ofString "plain_sum" :: Str.ofString "signed_sum" :: Str.ofString "both" :: []))) (hA : Room X.A 9) (aN : Addr) (ts tp_ ts_ tb : Tok) (st gl hl nl : Nat) (p s : Int) (N : Led) (nv : List Value) (h1 : (aN, .list nv) ∈ N) (hn : nv.length = nl) (hn2 : nl ≤ 24) (hg2 : gl ≤ 24) (hh2 : hl ≤ 24)
    (e1 : p = (nl : Int) * ((gl : Int) * (hl : Int))) (e2 : s = (st : Int) * ((gl : Int) * (hl : Int))) :
    AW (LC X (Str.ofString "names" :: Str.ofString "steady" :: Str.ofString "plain_sum" :: Str.ofString "signed_sum" :: Str.ofString "both" :: [])) (exec S29.1 (LC X (Str.ofString "names" :: Str.ofString "steady" :: Str.ofString "plain_sum" :: Str.ofString "signed_sum" :: Str.ofString "both" :: [])).env) [some (.ref aN), some (.int (st : Nat) ts), some (.int p tp_), some (.int s ts_), some (.int ((gl : Int) * (hl : Int)) tb)] N (fun f v n => f = .ret (.bool true)) := by
  have hb : ((gl : Int) * (hl : Int)).natAbs < 2 ^ 63 := by
    rw [Int.natAbs_mul]
    have : gl * hl ≤ 24 * 24 := Nat.mul_le_mul hg2 hh2
    simp only [Int.natAbs_natCast]
    omega
  walk_at "hide"
  unfold S29
  dsimp only
  repeat walk_at "aw"
  refine AW.and2 ?_
  repeat walk_at "aw"
  refine AW.lenL (by walk_at "has") (by omega) fun _ => ?_
  rw [hn]
  repeat walk_at "aw"
  refine AW.mulS hb fun _ => ?_
  repeat walk_at "aw"
  refine ifT (by rw [e1]; simp) ?_
  repeat walk_at "aw"
  refine AW.mulS hb fun _ => ?_
  repeat walk_at "aw"
  rw [e2, beq_self_eq_true]

/-! the law's whole body: a state is known by the names that live -/
noncomputable abbrev LX.zz (X : LX) : LX := X.at fun _ => none
inductive Bk (ns' : List Str) (v : Vals) (ns : List Str) (vs : Vals) : List Str → Vals → Prop where
  | nil : Bk ns' v ns vs [] []
  | no {x nm V} : Bk ns' v ns vs nm V → Bk ns' v ns vs (x :: nm) (none :: V)
  | old {x u nm V} : x ∉ ns' → LookV ns vs x u → Bk ns' v ns vs nm V → Bk ns' v ns vs (x :: nm) (some u :: V)
  | new {x u nm V} : LookV ns' v x u → Bk ns' v ns vs nm V → Bk ns' v ns vs (x :: nm) (some u :: V)
theorem Bk.get {ns' : List Str} {v : Vals} {ns : List Str} {vs : Vals} {nm : List Str} {V : Vals} (h : Bk ns' v ns vs nm V) : ∀ (i : Nat) (x : Str) (u : Value), nm[i]? = some x → V[i]? = some (some u) → (x ∉ ns' ∧ LookV ns vs x u) ∨ LookV ns' v x u := by
  induction h with
  | nil => intro i x u h1 _; simp at h1
  | no _ ih =>
    intro i x u h1 h2
    cases i with
    | zero => simp at h2
    | succ i => exact ih i x u (by simpa using h1) (by simpa using h2)
  | old e1 e2 _ ih =>
    intro i x u h1 h2
    cases i with
    | zero => simp at h1 h2; subst h1 h2; exact .inl ⟨e1, e2⟩
    | succ i => exact ih i x u (by simpa using h1) (by simpa using h2)
  | new e _ ih =>
    intro i x u h1 h2
    cases i with
    | zero => simp at h1 h2; subst h1 h2; exact .inr e
    | succ i => exact ih i x u (by simpa using h1) (by simpa using h2)
section
variable {X : LX} {nm nm' : List Str} {vals vals' : Vals} {news : Led} {st : Stmt} {rest : List Stmt} {Φ : Flow → Vals → Led → Prop}
theorem Rel.nar {g : Heap} {s : Shared} (R : Rel (LC X nm) g vals news s) (hv : LookAll nm vals nm' vals') : ∃ m, Rel (LC (X.at m) nm') g vals' news s ∧ ∀ x u, LookV nm vals x u → m x = some u := by
  obtain ⟨m, hn, h1, h2⟩ := R.ns
  have hl : ∀ x u, LookV nm vals x u → m x = some u := fun x u q => by
    obtain ⟨j, e1, e2⟩ := q.idx
    exact h1 j x u e1 e2
  exact ⟨m, ⟨R.same, R.base, R.keep, ⟨m, hn, fun i x v a b => hl x v (hv.get i x v a b), fun _ _ _ q => q⟩, R.led, R.apart, R.fresh, R.frame⟩, hl⟩
theorem Rel.wid {g : Heap} {s : Shared} {m : Str → Option Value} {v : Vals} {n : Led} (r : Rel (LC (X.at m) nm') g v n s) (hl : ∀ x u, LookV nm vals x u → m x = some u) {nm2 : List Str} {V : Vals} (hb : Bk nm' v nm vals nm2 V) : Rel (LC X.zz nm2) g V n s := by
  obtain ⟨m', hn', h3, h4⟩ := r.ns
  refine ⟨r.same, r.base, r.keep, ⟨m', hn', fun i x u e1 e2 => ?_, fun _ _ _ q => nomatch q⟩, r.led, r.apart, r.fresh, r.frame⟩
  rcases hb.get i x u e1 e2 with ⟨q1, q2⟩ | q
  · exact h4 x u q1 (hl x u q2)
  · obtain ⟨j, e3, e4⟩ := q.idx
    exact h3 j x u e3 e4
theorem Bk.none_ (ns' : List Str) (v : Vals) (ns : List Str) (vs : Vals) : ∀ l : List Str, Bk ns' v ns vs l (l.map fun _ => none)
  | [] => .nil
  | _ :: l => .no (Bk.none_ ns' v ns vs l)
/-- a statement of the law's, in a frame of the names that it looks at; what it gives back at the end -/
theorem AW.stF (nm' nm2 : List Str) {x : Value} {Ψ : Vals → Led → Prop} (hv : LookAll nm vals nm' vals')
    (h : ∀ old, AW (LC (X.at old) nm') (exec st (LC (X.at old) nm').env) vals' news fun f v n => f = .next ∧ Ψ v n)
    (k : ∀ v n, Ψ v n → ∃ V, Bk nm' v nm vals nm2 V ∧ AW (LC X.zz nm2) (execs rest (LC X.zz nm2).env) V n fun f _ _ => f = .ret x) : AW (LC X.zz nm) (execs (st :: rest) (LC X.zz nm).env) vals news fun f _ _ => f = .ret x := by
  intro g s R
  obtain ⟨m, R', hl⟩ := R.nar hv
  refine wpAny_execs_cons ((h m).then R' fun f s' v n r q => ?_)
  obtain ⟨rfl, q⟩ := q
  obtain ⟨V, hb, hk⟩ := k v n q
  refine hk.then (r.wid hl hb) fun f s' v' n' r' q => ?_
  obtain ⟨m', r2, hl'⟩ := Rel.nar (X := X.zz) r' .nil
  exact ⟨_, n', r2.wid hl' (Bk.none_ _ _ _ _ nm), q⟩
theorem AW.lastF (nm' : List Str) {x : Value} (hv : LookAll nm vals nm' vals')
    (h : ∀ old, AW (LC (X.at old) nm') (exec st (LC (X.at old) nm').env) vals' news fun f v n => f = .ret x) : AW (LC X.zz nm) (execs (st :: rest) (LC X.zz nm).env) vals news fun f _ _ => f = .ret x := by
  intro g s R
  obtain ⟨m, R', hl⟩ := R.nar hv
  refine wpAny_execs_cons ((h m).then R' fun f s' v n r q => ?_)
  subst q
  exact ⟨_, n, r.wid hl (Bk.none_ _ _ _ _ nm), rfl⟩
theorem okZ {old : Str → Option Value} (G : Ok (LC X.zz nm)) (nd : nm'.Nodup) : Ok (LC (X.at old) nm') := ⟨G.han, G.top, G.glo, G.blt, G.kind, nd⟩
end
local macro_rules | `(tactic| walk_at "bf") => `(tactic| ((with_reducible apply Exists.intro); (with_reducible apply And.intro); (focus (repeat (first | with_reducible exact Bk.nil | ((with_reducible apply Bk.new); (focus walk_at "look")) | ((with_reducible apply Bk.old); (focus decide +kernel); (focus walk_at "look")) | with_reducible apply Bk.no)))))
theorem Orbs.msub {up lo : List (List Nat)} {orbs : Orbits} {sym : List Nat → Int} {ms : List (List Nat)} {st : Nat} (h : Orbs up lo orbs sym ms st) : ∀ m ∈ ms, m ∈ P24 := by
  intro m hm
  obtain ⟨i, hi, e⟩ := List.mem_iff_getElem.mp hm
  obtain ⟨o, ho, hmo⟩ := pgetL h.ms i m (by rw [List.getElem?_eq_getElem hi, e])
  exact h.sub m (List.mem_flatMap.mpr ⟨o, List.mem_of_getElem? ho, hmo⟩)
inductive P0 (N : Led) : Vals → Led → Prop where
  | mk (aC : Addr) (t0 t1 t2 t3 t4 : Tok) : P0 N [some (.ref aC)] ((aC, .list [.int 17 t0, .int 2 t1, .int 22 t2, .int 4 t3, .int 5 t4]) :: N)
theorem ph0 {X : LX} (G : Ok (LC X (Str.ofString "cells" :: []))) (hA : Room X.A 9) (N : Led) : AW (LC X (Str.ofString "cells" :: [])) (exec S0.1 (LC X (Str.ofString "cells" :: [])).env) [none] N (fun f v n => f = .next ∧ P0 N v n) := by
  walk_at "hide"
  unfold S0
  dsimp only
  repeat walk_at "aw"
  exact ⟨rfl, ⟨_, _, _, _, _, _⟩⟩
theorem pm6 {α : Type} (c u a w b : α) (r : List α) : (u :: c :: w :: b :: a :: r).Perm (w :: b :: c :: u :: a :: r) :=
  ((by decide : List.Perm [3, 2, 0, 1] [0, 1, 2, 3]).map fun i => [w, b, c, u].getD i c).append_right (a :: r)
theorem pm7 {α : Type} (c u w : α) (l r : List α) : (w :: c :: (l ++ u :: r)).Perm (l ++ u :: c :: w :: r) := by
  have h := List.perm_append_comm (l₁ := [c, w]) (l₂ := l ++ [u]) |>.append_right r
  exact (List.Perm.swap c w _).trans (by simpa using h)
theorem pm8 {α : Type} (t v a b c d : α) (r : List α) : (t :: b :: c :: d :: v :: a :: r).Perm (t :: v :: a :: b :: c :: d :: r) :=
  ((by decide : List.Perm [0, 3, 4, 5, 1, 2] [0, 1, 2, 3, 4, 5]).map fun i => [t, v, a, b, c, d].getD i t).append_right r
theorem pm9 {α : Type} (n y t b c d : α) (r : List α) : (y :: c :: d :: n :: t :: b :: r).Perm (n :: y :: t :: b :: c :: d :: r) :=
  ((by decide : List.Perm [1, 4, 5, 0, 2, 3] [0, 1, 2, 3, 4, 5]).map fun i => [n, y, t, b, c, d].getD i t).append_right r
inductive LO (n C : Led) (aC aU aW : Addr) (cv ur lr : List Value) (up lo : List (List Nat)) : Prop where
  | mk (O : Led) (hp : (C ++ O).Perm n) (hC : (aC, .list cv) ∈ O) (hmU : (aU, .list ur) ∈ O) (hmW : (aW, .list lr) ∈ O) (hU : Orders O ur up) (hL : Orders O lr lo) : LO n C aC aU aW cv ur lr up lo
theorem Orders.one {M : Led} {a : Addr} {vs : List Value} {p : List Nat} (hm : (a, .list vs) ∈ M) (hv : Paired IsN vs p) (hp : p ∈ P24) : Orders M [.ref a] [p] :=
  ⟨.cons ⟨a, vs, rfl, hm, hv⟩ .nil, fun q hq => by rw [List.mem_singleton.mp hq]; exact hp, Nat.le_of_ble_eq_true rfl⟩
theorem law_O {C T T2 : Led} {aU aW a b : Addr} (aC : Addr) (cv : List Value) {ur lr vs vs2 : List Value} {p p2 : List Nat} {up lo : List (List Nat)} (hv : Paired IsN vs p) (hp : p ∈ P24) (hv2 : Paired IsN vs2 p2) (hp2 : p2 ∈ P24)
    (hT : ∀ M : Led, (∀ q ∈ T, q ∈ M) → Orders M [.ref a] [p] → Orders M ur up) (hT2 : ∀ M : Led, (∀ q ∈ T2, q ∈ M) → Orders M [.ref b] [p2] → Orders M lr lo) :
    LO (T2 ++ (aW, .list lr) :: (aC, .list cv) :: (T ++ (aU, .list ur) :: (b, .list vs2) :: (a, .list vs) :: C)) C aC aU aW cv ur lr up lo := by
  refine ⟨T2 ++ (aW, .list lr) :: (aC, .list cv) :: (T ++ (aU, .list ur) :: (b, .list vs2) :: (a, .list vs) :: []), ?_, by simp, by simp, by simp, hT _ (fun q hq => by simp [hq]) (.one (vs := vs) (by simp) hv hp), hT2 _ (fun q hq => by simp [hq]) (.one (vs := vs2) (by simp) hv2 hp2)⟩
  refine List.perm_append_comm.trans ?_
  simp
theorem J19.zero {r : Str} {up lo : List (List Nat)} {aW aT aV aY aN L3 L4 : Addr} {O : Led} {kvs : List (Str × Value)} (hl : kvs.length ≤ 24) (hk : ∀ j p, j < 24 → (WW 4)[j]? = some p → ∃ t, valueAt kvs (wd r p) = some (.int 0 t)) (o3 o4 : Option Value) (ts : Tok) :
    J19 r up lo aW aT aV aY aN L3 L4 O 0 [some (.ref aW), some (.ref aT), some (.ref aV), some (.ref aY), some (.ref aN), some (.int 0 ts), none, none, none, none, none, none, none, none, none] ((aY, .dict kvs) :: (L3, .cell o3) :: (L4, .cell o4) :: (aN, .list []) :: O) := by
  obtain ⟨kvs', z, e1, e2, hY⟩ := (J16.mk (rV := .none) (aY := aY) (r := r) (N := []) (i := 24) kvs none hl hk).sym
  cases e2
  exact ⟨[], fun _ => 0, [], 0, kvs, [], _, _, _, _, _, _, _, _, _, _, _, _, .nil, hY, ⟨(by intro o ho; cases ho), .nil, fun _ _ _ => rfl, (by intro p hp h; cases h), .nil, rfl⟩, fun j p hj => absurd hj (Nat.not_lt_zero _)⟩
theorem K19.all {r : Str} {up lo : List (List Nat)} {orbs : Orbits} {sym : List Nat → Int} {ms : List (List Nat)} {st : Nat} {kvs : List (Str × Value)} {nv : List Value} (h : K19 r up lo 24 orbs sym ms st kvs nv) : ∀ p ∈ P24, p ∈ allOf orbs := by
  obtain ⟨w1, w2, w3, w4⟩ := WW_mem
  intro p hp
  obtain ⟨j, hj, e⟩ := List.mem_iff_getElem.mp (w2 p hp)
  exact h.hin j p (by rw [w4] at hj; exact hj) (by rw [List.getElem?_eq_getElem hj, e])
section
variable {X : LX} {nm0 : List Str} (G : Ok (LC X.zz nm0)) (hA : Room X.A 9)
include G hA
theorem law_C (aU aW aN : Addr) (tr ts : Tok) (ds : List Nat) (hd : Digs ds) (ur lr nv : List Value) (up lo : List (List Nat)) (O : Led) (hmU : (aU, .list ur) ∈ O) (hmW : (aW, .list lr) ∈ O) (hU : Orders O ur up) (hL : Orders O lr lo) {orbs : Orbits} {sym : List Nat → Int} {ms : List (List Nat)} {st : Nat} {kvs : List (Str × Value)} (h19 : K19 (rdS ds) up lo 24 orbs sym ms st kvs nv) :
    AW (LC X.zz ((Str.ofString "uppers" :: Str.ofString "lowers" :: Str.ofString "rounds" :: Str.ofString "names" :: Str.ofString "steady" :: []))) (execs [S20.1, S21.1, S22.1, S23.1, S24.1, S25.1, S26.1, S27.1, S28.1, S29.1] (LC X.zz ((Str.ofString "uppers" :: Str.ofString "lowers" :: Str.ofString "rounds" :: Str.ofString "names" :: Str.ofString "steady" :: []))).env) [some (.ref aU), some (.ref aW), some (.str (rdS ds) tr), some (.ref aN), some (.int (st : Nat) ts)] ((aN, .list nv) :: O) (fun f v n => f = .ret (.bool true)) := by
  have hr := hd.four_
  have h65 := h65_of hd
  have hms := h19.hO.msub
  have hml : ms.length ≤ 24 := by
    have := h19.hO.len
    omega
  refine AW.stF ((Str.ofString "names" :: Str.ofString "numbers" :: [])) ((Str.ofString "uppers" :: Str.ofString "lowers" :: Str.ofString "rounds" :: Str.ofString "names" :: Str.ofString "steady" :: Str.ofString "numbers" :: [])) ?hv (fun old => ph20 (X := X.at old) (okZ G (by decide +kernel)) hA aN ds hd nv ms hms hml h19.hnv _ (.head _)) ?_
  case hv => walk_at "lookall"
  rintro _ _ ⟨aM, out, nums, h1, h2, h3⟩
  walk_at "bf"
  refine AW.stF ((Str.ofString "names" :: Str.ofString "numbers" :: [])) ((Str.ofString "uppers" :: Str.ofString "lowers" :: Str.ofString "rounds" :: Str.ofString "names" :: Str.ofString "steady" :: [])) ?hv (fun old => ph21 (X := X.at old) (okZ G (by decide +kernel)) hA aN aM ds hd nv out nums ms hms hml h19.hnv _ (.tail _ (.head _)) (.head _) h1 h2 h3) ?_
  case hv => walk_at "lookall"
  rintro _ _ ⟨rfl, rfl⟩
  walk_at "bf"
  refine AW.drop (.cons _ (.refl _)) ?_
  refine AW.stF ((Str.ofString "rounds" :: Str.ofString "uppers" :: Str.ofString "upper" :: [])) ((Str.ofString "lowers" :: Str.ofString "rounds" :: Str.ofString "names" :: Str.ofString "steady" :: Str.ofString "upper" :: [])) ?hv (fun old => ph22 (X := X.at old) (okZ G (by decide +kernel)) hA aU (rdS ds) hr tr ur up _ (.tail _ hmU) (hU.l.mono fun p hp => .tail _ hp) hU.m) ?_
  case hv => walk_at "lookall"
  rintro _ _ ⟨aG, gv, ps, hg1, gH⟩
  walk_at "bf"
  refine AW.stF ((Str.ofString "rounds" :: Str.ofString "lowers" :: Str.ofString "lower" :: [])) ((Str.ofString "rounds" :: Str.ofString "names" :: Str.ofString "steady" :: Str.ofString "upper" :: Str.ofString "lower" :: [])) ?hv (fun old => ph23 (X := X.at old) (okZ G (by decide +kernel)) hA aW (rdS ds) hr tr lr lo _ (.tail _ (.tail _ hmW)) (hL.l.mono fun p hp => .tail _ (.tail _ hp)) hL.m) ?_
  case hv => walk_at "lookall"
  rintro _ _ ⟨aH, hv, qs, hg2, gK⟩
  walk_at "bf"
  have hpl := P24_le gH.nd gH.sub
  have hql := P24_le gK.nd gK.sub
  refine AW.stF ((Str.ofString "plain_sum" :: [])) ((Str.ofString "rounds" :: Str.ofString "names" :: Str.ofString "steady" :: Str.ofString "upper" :: Str.ofString "lower" :: Str.ofString "plain_sum" :: [])) ?hv (fun old => ph24 (X := X.at old) (okZ G (by decide +kernel)) hA _) ?_
  case hv => walk_at "lookall"
  rintro _ _ ⟨t0⟩
  walk_at "bf"
  refine AW.stF ((Str.ofString "signed_sum" :: [])) ((Str.ofString "rounds" :: Str.ofString "names" :: Str.ofString "steady" :: Str.ofString "upper" :: Str.ofString "lower" :: Str.ofString "plain_sum" :: Str.ofString "signed_sum" :: [])) ?hv (fun old => ph25 (X := X.at old) (okZ G (by decide +kernel)) hA _) ?_
  case hv => walk_at "lookall"
  rintro _ _ ⟨t1⟩
  walk_at "bf"
  refine AW.stF (Ψ := PK _ _ X.w.params _ _) ((Str.ofString "rounds" :: Str.ofString "lower" :: Str.ofString "others" :: [])) ((Str.ofString "rounds" :: Str.ofString "names" :: Str.ofString "steady" :: Str.ofString "upper" :: Str.ofString "lower" :: Str.ofString "plain_sum" :: Str.ofString "signed_sum" :: Str.ofString "others" :: [])) ?hv (fun old => ph26 (X := X.at old) (okZ G (by decide +kernel)) hA aH (rdS ds) hr h65 tr _ hv qs (.head _) hg2 gK.sub hql) ?_
  case hv => walk_at "lookall"
  rintro _ _ ⟨aK, ks2, K2, hs2⟩
  walk_at "bf"
  refine AW.stF (Ψ := P27 _ _ _ X.w.params _ _ _) ((Str.ofString "rounds" :: Str.ofString "upper" :: Str.ofString "others" :: Str.ofString "told" :: Str.ofString "often" :: Str.ofString "plain_sum" :: Str.ofString "signed_sum" :: Str.ofString "other" :: Str.ofString "times" :: Str.ofString "weight" :: Str.ofString "runs" :: Str.ofString "left" :: Str.ofString "size" :: Str.ofString "alike" :: [])) ((Str.ofString "names" :: Str.ofString "steady" :: Str.ofString "upper" :: Str.ofString "lower" :: Str.ofString "plain_sum" :: Str.ofString "signed_sum" :: [])) ?hv (fun old => ph27 (X := X.at old) (okZ G (by decide +kernel)) hA aG aK (rdS ds) hr h65 tr t0 t1 _ gv ps qs (.tail _ (List.mem_append_right _ (.tail _ (.head _)))) hg1 gH.sub hpl ks2 (.head _) (fun p hp => .tail _ (List.mem_append_left _ hp)) K2 hql hs2) ?_
  case hv => walk_at "lookall"
  rintro _ _ ⟨ks, K1, hs1, tp_, ts_, z0, z8, z1, z2, z3, z4, z5, z6, z7⟩
  walk_at "bf"
  obtain ⟨b1, b2⟩ := burn hU.m hL.m gH gK h19.hO h19.all
  have lg := hg1.length
  have lh := hg2.length
  have ln := h19.hnv.length
  rw [List.length_map] at lg lh ln
  refine AW.stF ((Str.ofString "upper" :: Str.ofString "lower" :: Str.ofString "both" :: [])) ((Str.ofString "names" :: Str.ofString "steady" :: Str.ofString "plain_sum" :: Str.ofString "signed_sum" :: Str.ofString "both" :: [])) ?hv (fun old => ph28 (X := X.at old) (okZ G (by decide +kernel)) hA aG aH ps.length qs.length _ gv hv (.tail _ (List.mem_append_right _ (.tail _ (.head _)))) (.tail _ (List.mem_append_right _ (.head _))) lg lh hpl hql) ?_
  case hv => walk_at "lookall"
  rintro _ _ ⟨tb⟩
  walk_at "bf"
  refine AW.lastF (x := .bool true) ((Str.ofString "names" :: Str.ofString "steady" :: Str.ofString "plain_sum" :: Str.ofString "signed_sum" :: Str.ofString "both" :: [])) ?hv (fun old => ph29 (X := X.at old) (okZ G (by decide +kernel)) hA aN ts tp_ ts_ tb st ps.length qs.length ms.length (PS ks ks2) (SS ks ks2) _ nv (.tail _ (List.mem_append_right _ (.tail _ (.tail _ (.head _))))) ln hml hpl hql
    (by rw [PS_eq hs1 hs2 gH.sub gK.sub, b1]) (by rw [SS_eq K1 hs1 hs2 gH.sub gK.sub, b2]))
  case hv => walk_at "lookall"
theorem law_B (aU aW : Addr) (tr : Tok) (ds : List Nat) (hd : Digs ds) (ur lr : List Value) (up lo : List (List Nat)) (O : Led) (hmU : (aU, .list ur) ∈ O) (hmW : (aW, .list lr) ∈ O) (hU : Orders O ur up) (hL : Orders O lr lo) :
    AW (LC X.zz ((Str.ofString "uppers" :: Str.ofString "lowers" :: Str.ofString "rounds" :: []))) (execs [S11.1, S12.1, S13.1, S14.1, S15.1, S16.1, S17.1, S18.1, S19.1, S20.1, S21.1, S22.1, S23.1, S24.1, S25.1, S26.1, S27.1, S28.1, S29.1] (LC X.zz ((Str.ofString "uppers" :: Str.ofString "lowers" :: Str.ofString "rounds" :: []))).env) [some (.ref aU), some (.ref aW), some (.str (rdS ds) tr)]
      ((X.L + 1, .cell none) :: (X.L + 2, .cell none) :: (X.L + 3, .cell none) :: (X.L + 4, .cell none) :: O) (fun f v n => f = .ret (.bool true)) := by
  have hr := hd.four_
  refine AW.stF ((Str.ofString "words" :: [])) ((Str.ofString "uppers" :: Str.ofString "lowers" :: Str.ofString "rounds" :: Str.ofString "words" :: [])) ?hv (fun old => ph11 (X := X.at old) (okZ G (by decide +kernel)) hA _) ?_
  case hv => walk_at "lookall"
  rintro _ _ ⟨aV, t0⟩
  walk_at "bf"
  refine AW.stF (Ψ := J12 (X.L + 1) _ _ _ _) ((Str.ofString "rounds" :: Str.ofString "words" :: [])) ((Str.ofString "uppers" :: Str.ofString "lowers" :: Str.ofString "rounds" :: Str.ofString "words" :: [])) ?hv (fun old => ph12 (X := X.at old) (okZ G (by decide +kernel)) hA aV (rdS ds) tr t0 hr _) ?_
  case hv => walk_at "lookall"
  rintro _ _ ⟨aV, wv, o1, hwv⟩
  walk_at "bf"
  have hwv : Paired IsStr wv ((WW 4).map (wd (rdS ds))) := hwv
  refine AW.stF ((Str.ofString "tables" :: [])) ((Str.ofString "uppers" :: Str.ofString "lowers" :: Str.ofString "rounds" :: Str.ofString "words" :: Str.ofString "tables" :: [])) ?hv (fun old => ph13 (X := X.at old) (okZ G (by decide +kernel)) hA _) ?_
  case hv => walk_at "lookall"
  rintro _ _ ⟨aT⟩
  walk_at "bf"
  refine AW.permuted (pm8 _ _ _ _ _ _ _) ?_
  refine AW.stF (Ψ := J14 (X.L + 2) (X.L + 3) _ _ _ _ _ _ _ _) ((Str.ofString "uppers" :: Str.ofString "rounds" :: Str.ofString "tables" :: Str.ofString "spot" :: Str.ofString "odd" :: [])) ((Str.ofString "uppers" :: Str.ofString "lowers" :: Str.ofString "rounds" :: Str.ofString "words" :: Str.ofString "tables" :: [])) ?hv (fun old => ph14 (X := X.at old) (okZ G (by decide +kernel)) hA aU aT (rdS ds) tr hr _ ((aV, .list wv) :: (X.L + 1, .cell o1) :: O) none none ur up (hU.mono fun p hp => .tail _ (.tail _ hp)) (.tail _ (.tail _ hmU))) ?_
  case hv => walk_at "lookall"
  rintro _ _ ⟨tr2, o2, o3, z1, z2, O2, hO, hT⟩
  walk_at "bf"
  rw [List.take_length] at hT
  refine AW.stF ((Str.ofString "symbols" :: [])) ((Str.ofString "uppers" :: Str.ofString "lowers" :: Str.ofString "rounds" :: Str.ofString "words" :: Str.ofString "tables" :: Str.ofString "symbols" :: [])) ?hv (fun old => ph15 (X := X.at old) (okZ G (by decide +kernel)) hA _) ?_
  case hv => walk_at "lookall"
  rintro _ _ ⟨aY⟩
  walk_at "bf"
  refine AW.stF ((Str.ofString "words" :: Str.ofString "symbols" :: Str.ofString "word" :: [])) ((Str.ofString "uppers" :: Str.ofString "lowers" :: Str.ofString "rounds" :: Str.ofString "words" :: Str.ofString "tables" :: Str.ofString "symbols" :: [])) ?hv (fun old => ph16 (X := X.at old) (okZ G (by decide +kernel)) hA aV aY (rdS ds) hr _ wv hwv (.tail _ (.tail _ (.tail _ (.tail _ (hO _ (.head _))))))) ?_
  case hv => walk_at "lookall"
  rintro _ _ ⟨kvs, z, hkl, hk⟩
  walk_at "bf"
  refine AW.stF ((Str.ofString "names" :: [])) ((Str.ofString "uppers" :: Str.ofString "lowers" :: Str.ofString "rounds" :: Str.ofString "words" :: Str.ofString "tables" :: Str.ofString "symbols" :: Str.ofString "names" :: [])) ?hv (fun old => ph17 (X := X.at old) (okZ G (by decide +kernel)) hA _) ?_
  case hv => walk_at "lookall"
  rintro _ _ ⟨aN⟩
  walk_at "bf"
  refine AW.stF ((Str.ofString "steady" :: [])) ((Str.ofString "uppers" :: Str.ofString "lowers" :: Str.ofString "rounds" :: Str.ofString "words" :: Str.ofString "tables" :: Str.ofString "symbols" :: Str.ofString "names" :: Str.ofString "steady" :: [])) ?hv (fun old => ph18 (X := X.at old) (okZ G (by decide +kernel)) hA _) ?_
  case hv => walk_at "lookall"
  rintro _ _ ⟨ts⟩
  walk_at "bf"
  refine AW.permuted (pm9 _ _ _ _ _ _ _) ?_
  have hO2 : ∀ p ∈ O, p ∈ (aT, MO.list tr2) :: (X.L + 2, .cell o2) :: O2 := fun p hp => .tail _ (.tail _ (hO _ (.tail _ (.tail _ hp))))
  refine AW.stF (Ψ := J19 _ _ _ _ _ _ _ _ (X.L + 3) (X.L + 4) _ _) ((Str.ofString "lowers" :: Str.ofString "tables" :: Str.ofString "words" :: Str.ofString "symbols" :: Str.ofString "names" :: Str.ofString "steady" :: Str.ofString "start" :: Str.ofString "queue" :: Str.ofString "least" :: Str.ofString "clash" :: Str.ofString "spot" :: Str.ofString "reached" :: Str.ofString "word" :: Str.ofString "odd" :: Str.ofString "due" :: [])) ((Str.ofString "uppers" :: Str.ofString "lowers" :: Str.ofString "rounds" :: Str.ofString "names" :: Str.ofString "steady" :: [])) ?hv (fun old => ph19 (X := X.at old) (okZ G (by decide +kernel)) hA (rdS ds) hr aW aT aV aY aN lr tr2 wv _ up lo hU.m hU.n (hL.mono hO2) (hT.mono fun p hp => .tail _ (.tail _ hp)) hwv (hO2 _ hmW) (.head _) (.tail _ (.tail _ (hO _ (.head _)))) _ _ (J19.zero hkl hk _ _ ts)) ?_
  case hv => walk_at "lookall"
  rintro _ _ ⟨orbs, sym, ms, st, kvs2, nv, o5, o6, ts2, y1, y2, y3, y4, y5, y6, y7, y8, y9, h19⟩
  walk_at "bf"
  refine AW.drop (.cons _ (.cons _ (.cons _ (.refl _)))) ?_
  exact law_C G hA aU aW aN tr ts2 ds hd ur lr nv up lo _ (hO2 _ hmU) (hO2 _ hmW) (hU.mono hO2) (hL.mono hO2) h19
theorem law_A (aS : Addr) (sv : List Value) (ns : List Int) (hsv : Paired IsI sv ns) (hns : ns.length ≤ 63) (o : Obj) (nn : Nat) (hoc : o.cls = .type "list") (hod : o.data = .seq sv.toArray nn) (hSc : Has X.w X.s.heap (aS, .raw o)) :
    AW (LC X.zz ((Str.ofString "script" :: []))) (execs lawBody (LC X.zz ((Str.ofString "script" :: []))).env) [some (.ref aS)] ((X.L + 1, .cell none) :: (X.L + 2, .cell none) :: (X.L + 3, .cell none) :: (X.L + 4, .cell none) :: []) (fun f v n => f = .ret (.bool true)) := by
  rw [lawBody_eq]
  refine AW.stF ((Str.ofString "cells" :: [])) ((Str.ofString "script" :: Str.ofString "cells" :: [])) ?hv (fun old => ph0 (X := X.at old) (okZ G (by decide +kernel)) hA _) ?_
  case hv => walk_at "lookall"
  rintro _ _ ⟨aC, t0, t1, t2, t3, t4⟩
  walk_at "bf"
  refine AW.stF ((Str.ofString "script" :: Str.ofString "cells" :: Str.ofString "spot" :: Str.ofString "x" :: [])) ((Str.ofString "cells" :: [])) ?hv (fun old => ph1 (X := X.at old) (okZ G (by decide +kernel)) hA aS aC sv ns hsv hns o nn hoc hod hSc t0 t1 t2 t3 t4 _ none none) ?_
  case hv => walk_at "lookall"
  rintro _ _ ⟨_, _, cv, cs, hcv, h5, h0⟩
  walk_at "bf"
  refine AW.stF ((Str.ofString "cells" :: Str.ofString "uppers" :: [])) ((Str.ofString "cells" :: Str.ofString "uppers" :: [])) ?hv (fun old => ph2 (X := X.at old) (okZ G (by decide +kernel)) hA aC cv cs hcv h5 h0 _) ?_
  case hv => walk_at "lookall"
  rintro _ _ ⟨aU, a, vs, p, hv, hp⟩
  walk_at "bf"
  refine AW.permuted (List.perm_middle (l₁ := [_, _])).symm ?_
  refine AW.stF ((Str.ofString "cells" :: Str.ofString "lowers" :: [])) ((Str.ofString "cells" :: Str.ofString "uppers" :: Str.ofString "lowers" :: [])) ?hv (fun old => ph3 (X := X.at old) (okZ G (by decide +kernel)) hA aC cv cs hcv h5 h0 _) ?_
  case hv => walk_at "lookall"
  rintro _ _ ⟨aW, b, vs2, p2, hv2, hp2⟩
  walk_at "bf"
  refine AW.permuted (pm6 _ _ _ _ _ _) ?_
  refine AW.stF ((Str.ofString "cells" :: Str.ofString "uppers" :: [])) ((Str.ofString "cells" :: Str.ofString "uppers" :: Str.ofString "lowers" :: [])) ?hv (fun old => ph4 (X := X.at old) (okZ G (by decide +kernel)) hA aC aU cv cs hcv h5 h0 [.ref a] [p] rfl (Nat.le_refl _) _) ?_
  case hv => walk_at "lookall"
  rintro _ _ ⟨ur, up, T, hT⟩
  walk_at "bf"
  refine AW.permuted (pm7 _ _ _ T _) ?_
  refine AW.stF ((Str.ofString "cells" :: Str.ofString "lowers" :: [])) ((Str.ofString "cells" :: Str.ofString "uppers" :: Str.ofString "lowers" :: [])) ?hv (fun old => ph5 (X := X.at old) (okZ G (by decide +kernel)) hA aC aW cv cs hcv h5 h0 [.ref b] [p2] rfl (Nat.le_refl _) _) ?_
  case hv => walk_at "lookall"
  rintro _ _ ⟨lr, lo, T2, hT2⟩
  walk_at "bf"
  obtain ⟨O, hp, hC, hmU, hmW, hU, hL⟩ := law_O (C := [(X.L + 1, .cell none), (X.L + 2, .cell none), (X.L + 3, .cell none), (X.L + 4, .cell none)]) aC cv hv hp hv2 hp2 hT hT2
  refine AW.permuted hp ?_
  obtain ⟨k, hk⟩ : ∃ k, cs[4]? = some k := ⟨_, List.getElem?_eq_getElem (by rw [h5]; decide)⟩
  have hk0 := h0 k (List.mem_of_getElem? hk)
  refine AW.stF ((Str.ofString "cells" :: Str.ofString "figure" :: [])) ((Str.ofString "cells" :: Str.ofString "uppers" :: Str.ofString "lowers" :: Str.ofString "figure" :: [])) ?hv (fun old => ph6 (X := X.at old) (okZ G (by decide +kernel)) hA aC cv cs hcv k hk _ (in4 hC)) ?_
  case hv => walk_at "lookall"
  rintro _ _ ⟨t6⟩
  walk_at "bf"
  refine AW.stF ((Str.ofString "figure" :: Str.ofString "number" :: [])) ((Str.ofString "cells" :: Str.ofString "uppers" :: Str.ofString "lowers" :: Str.ofString "figure" :: Str.ofString "number" :: [])) ?hv (fun old => ph7 (X := X.at old) (okZ G (by decide +kernel)) hA (.int (1 + k.fmod 4) t6) _) ?_
  case hv => walk_at "lookall"
  rintro _ _ ⟨rfl, rfl⟩
  walk_at "bf"
  refine AW.stF ((Str.ofString "cells" :: Str.ofString "figure" :: Str.ofString "number" :: Str.ofString "size" :: [])) ((Str.ofString "uppers" :: Str.ofString "lowers" :: Str.ofString "number" :: [])) ?hv (fun old => ph8 (X := X.at old) (okZ G (by decide +kernel)) hA aC cv cs hcv k hk hk0 t6 t6 _ (in4 hC)) ?_
  case hv => walk_at "lookall"
  rintro _ _ ⟨ds, t7, z1, z2, hd⟩
  walk_at "bf"
  refine AW.stF ((Str.ofString "number" :: Str.ofString "rounds" :: [])) ((Str.ofString "uppers" :: Str.ofString "lowers" :: Str.ofString "number" :: Str.ofString "rounds" :: [])) ?hv (fun old => ph9 (X := X.at old) (okZ G (by decide +kernel)) hA ds t7 hd _) ?_
  case hv => walk_at "lookall"
  rintro _ _ ⟨tr⟩
  walk_at "bf"
  refine AW.stF ((Str.ofString "number" :: Str.ofString "rounds" :: [])) ((Str.ofString "uppers" :: Str.ofString "lowers" :: Str.ofString "rounds" :: [])) ?hv (fun old => ph10 (X := X.at old) (okZ G (by decide +kernel)) hA ds t7 tr hd _) ?_
  case hv => walk_at "lookall"
  rintro _ _ ⟨rfl, rfl⟩
  walk_at "bf"
  exact law_B G hA aU aW tr ds hd ur lr up lo O hmU hmW hU hL
end
theorem law_spec (w : World) (aS : Addr) (sv : List Value) (ns : List Int) (hsv : Paired IsI sv ns) (hns : ns.length ≤ 63) (o : Obj) (nn : Nat) (hoc : o.cls = .type "list") (hod : o.data = .seq sv.toArray nn) :
    Spec w 10 (.ref 172) [.ref aS] [(aS, .raw o)] (fun v tl => v = .bool true ∧ tl = []) := by
  refine enterC (fd := lawFd) (body := lawBody) (binds := [(Str.ofString "script", .ref aS)]) [Str.ofString "script"] [some (.ref aS)]
    (fun L => [(L + 1, .cell none), (L + 2, .cell none), (L + 3, .cell none), (L + 4, .cell none)]) (lawX.2 w.params) lawBodyX.2 (by kernel_rfl) rfl rfl
    ?_ rfl rfl rfl rfl rfl (by decide +kernel) ?_ ?_ ?_
  · intro n y hy
    rw [List.mem_singleton.mp hy]; exact .inl rfl
  · intro L i y v h1 h2
    rcases i with _ | i
    · simp at h1 h2; rw [← h1, ← h2]; rfl
    · simp at h1
  · intro L
    refine ⟨by simp, fun p hp => ?_⟩
    simp only [List.mem_cons, List.not_mem_nil, or_false] at hp
    rcases hp with rfl | rfl | rfl | rfl
    · exact ⟨Str.ofString "sign", none, rfl, rfl, rfl⟩
    · exact ⟨Str.ofString "order", none, rfl, rfl, rfl⟩
    · exact ⟨Str.ofString "table", none, rfl, rfl, rfl⟩
    · exact ⟨Str.ofString "old", none, rfl, rfl, rfl⟩
  intro A L s G hA hn
  have hSc := hn (aS, .raw o) (by simp)
  exact (law_A (X := ⟨w, A, L, s, fun _ => none⟩) G hA aS sv ns hsv hns o nn hoc hod hSc).mono fun f v n e => by
    subst e
    exact ⟨[], List.nil_sublist _, rfl, rfl⟩

theorem gl_law (P : Params) : nsIn (KF P) mainGlobals (Str.ofString "law") = some (some (.ref 172)) := by kernel_rfl
end Mine

open PySem PySem.W PyProof.Rows
theorem PySem.Challenge.cw_wj0025_01_holds : PySem.Challenge.rw_wj0025_01.Holds := by
  refine Mine.andGet Mine.hd Mine.left ?_
  k_fill
  intro w s₀ s₁ mg mb G Y fa o pm cd doc dV kV ho hdd hcd hD hmg hg args vals as hpre hlay hrd hwl hlo
  have KX := kIn_of Y
  clear Y
  refine Ground.open G ?_
  intro T B D TE TW
  clear hcd hD hdd ho G
  have hmg2 : mg (Str.ofString "law") = some (.ref fa) := hmg
  clear hmg
  have hfa : Value.ref fa = .ref 172 := Option.some.inj (hmg2.symm.trans (mg_of KX T.g (Mine.gl_law _)))
  rw [hfa]
  have TK : Mine.TopOK w s₁.heap := ⟨KX, _, _, _, T⟩
  have RK : Mine.Room callerA 10 := ⟨rfl, by decide, by decide⟩
  clear hmg2 hfa B D TE TW KX T
  wrow_args hpre hlay hrd hwl hlo
  rename_i ns hs1 hlay0 hLay hr1 hl2 as4 as3 aS sv as0 hIL ra w1 r0 hI hr0 hc1 hc2
  have hlen : ns.length ≤ 63 := by omega
  obtain ⟨ob, hob, hoc, nn, hod⟩ := hIL
  refine wpAny_mono (Mine.law_spec w aS sv ns (Mine.of_intsAre hI) hlen ob nn hoc hod callerA s₁ RK TK (fun p hp => by
    rw [List.mem_singleton.mp hp]; exact ⟨ob, hob, rfl, trivial⟩)) (fun v s' hq => ?_) fun _ _ e => e.elim
  obtain ⟨hk, tl, ⟨hv, _⟩, _⟩ := hq
  obtain ⟨h', tk, rfl, hext⟩ := hk
  subst hv
  refine GoodW.toG ⟨.inl ⟨.bool true, .bool true, [], rfl, ?_, ?_, ?_, ?_⟩, hext, rfl, hg⟩
  · intro cls; rfl
  · exact .bool true
  · with_unfolding_all rfl
  · exact fun _ => ⟨.nil, fun a h => by cases h⟩
