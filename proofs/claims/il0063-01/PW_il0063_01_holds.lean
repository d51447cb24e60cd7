import PyProof.Rows.All
import Wide.All
import OpenK.AllK
import Wide.FinOn
import PySem.Challenge.RW_il0063_01
set_option Elab.async false

section PartHeadX
open PySem PySem.W PyProof.Rows
set_option Elab.async false
set_option maxRecDepth 100000
set_option maxHeartbeats 8000000
namespace Mine
local macro_rules | `(tactic| k_head) => `(tactic| x_head)
open_top hd for PySem.Challenge.rw_il0063_01
end Mine
end PartHeadX

section PartA1
open PySem PySem.W PyProof.Rows
set_option Elab.async false
set_option maxRecDepth 100000
set_option maxHeartbeats 4000000
namespace Mine
noncomputable abbrev P := PySem.Challenge.pw_il0063_01
/-- what stays whole: the head's heap without the code table of cmp_to_key (it grows when the class is made) -/
noncomputable def K2 (p : Params) : Frag := (hd.heap_39 p).filter fun x => !(Nat.beq x.1 40)
theorem look_filter (n : Addr) : ∀ (l : Frag) (a : Addr) (o : Obj), (l.filter fun x => !(Nat.beq x.1 n)).lookup a = some o → l.lookup a = some o ∧ a ≠ n
  | [], _, _, e => by cases e
  | (b, x) :: r, a, o, e => by
    rw [List.filter_cons] at e
    by_cases hb : b = n
    · rw [if_neg (by subst hb; show ¬ ((!Nat.beq b b) = true); rw [Nat.beq_refl]; exact Bool.false_ne_true)] at e
      have z := look_filter n r a o e
      refine ⟨?_, z.2⟩
      rw [List.lookup_cons]
      have : (a == b) = false := by rw [hb]; exact beq_eq_false_iff_ne.mpr z.2
      rw [this]; exact z.1
    · rw [if_pos (by show (!Nat.beq b n) = true; cases q : Nat.beq b n with | false => rfl | true => exact absurd (Nat.eq_of_beq_eq_true q) hb)] at e
      rw [List.lookup_cons] at e ⊢
      cases hab : a == b with
      | true =>
        rw [hab] at e
        exact ⟨e, by rw [beq_iff_eq.mp hab]; exact hb⟩
      | false =>
        rw [hab] at e
        exact look_filter n r a o e
theorem K2_in {p : Params} {h : Heap} (x : (hd.heap_39 p).In h) : (K2 p).In h := fun a o e => x a o (look_filter 40 _ a o e).1
noncomputable abbrev Vis := Addr → Option Obj

noncomputable def hid (o : Obj) : Bool := (match o.data with
  | .dict .. => true
  | _ => false) || (match o.cls with
  | .type t => (["slice", "list_iterator", "tuple_iterator", "range_iterator", "zip"] : List String).contains t
  | _ => false)
noncomputable def vis (h : Heap) : Vis := fun a => match h.get? a with
  | some o => if hid o = true then none else some o
  | none => none
theorem vis_some {h : Heap} {a : Addr} {o : Obj} (e : h.get? a = some o) (hd : hid o = false) : vis h a = some o := by
  unfold vis; rw [e]; dsimp only; rw [hd]; rfl
theorem vis_get {h : Heap} {a : Addr} {o : Obj} (e : vis h a = some o) : h.get? a = some o ∧ hid o = false := by
  unfold vis at e
  split at e
  · rename_i o' q
    split at e
    · cases e
    · rename_i hn; cases e; exact ⟨q, by simpa using hn⟩
  · cases e
theorem vis_congr {h h' : Heap} {a : Addr} (e : h'.get? a = h.get? a) : vis h' a = vis h a := by unfold vis; rw [e]
theorem vis_hid {h : Heap} {a : Addr} {o : Obj} (e : h.get? a = some o) (hd : hid o = true) : vis h a = none := by
  unfold vis; rw [e]; dsimp only; rw [hd]; rfl
theorem vis_dict {h : Heap} {a : Addr} {o : Obj} {es n} (e : h.get? a = some o) (hd : o.data = .dict es n) : vis h a = none := vis_hid e (by unfold hid; rw [hd]; rfl)
theorem vis_none {h : Heap} {a : Addr} (e : h.get? a = none) : vis h a = none := by unfold vis; rw [e]

noncomputable def Ext (g g' : Vis) : Prop := ∀ a o, g a = some o → g' a = some o
theorem Ext.refl (g : Vis) : Ext g g := fun _ _ e => e
theorem Ext.trans {a b c : Vis} (x : Ext a b) (y : Ext b c) : Ext a c := fun i o e => y i o (x i o e)
noncomputable def put (g : Vis) (a : Addr) (o : Obj) : Vis := fun b => if b = a then some o else g b
theorem put_self (g : Vis) (a : Addr) (o : Obj) : put g a o a = some o := if_pos rfl
theorem put_ne (g : Vis) {a b : Addr} (o : Obj) (h : b ≠ a) : put g a o b = g b := if_neg h
theorem put_put (g : Vis) (a : Addr) (o o' : Obj) : put (put g a o) a o' = put g a o' := by
  funext b; unfold put; split <;> rfl
theorem Ext.put {g g' : Vis} {a : Addr} {o : Obj} (x : Ext g g') (n : g a = none) : Ext g (put g' a o) := fun b o' e => by
  have : b ≠ a := fun q => by rw [q, n] at e; cases e
  rw [put_ne _ _ this]; exact x b o' e
theorem Ext.ne {g : Vis} {a b : Addr} {o : Obj} (h : g a = some o) (n : g b = none) : a ≠ b := fun q => by rw [q, n] at h; cases h

structure To (s s' : Shared) : Prop where
  keep : ∀ b o, s.heap.get? b = some o → s'.heap.get? b = some o
  gens : s'.gens = s.gens
  drawn : s'.drawn = s.drawn
  os : s'.os = s.os
theorem To.refl (s : Shared) : To s s := ⟨fun _ _ e => e, rfl, rfl, rfl⟩
theorem To.trans {a b c : Shared} (x : To a b) (y : To b c) : To a c := ⟨fun i o e => y.keep i o (x.keep i o e), y.gens.trans x.gens, y.drawn.trans x.drawn, y.os.trans x.os⟩
theorem To.ext {s s' : Shared} (x : To s s') : Ext (vis s.heap) (vis s'.heap) := fun a o e => by
  have ⟨h1, h2⟩ := vis_get e
  exact vis_some (x.keep _ _ h1) h2

structure Cx (w : World) (s₀ : Shared) (L : Addr) (l : List (Str × Value)) (g : Vis) (pr : List (Addr × Obj)) (s : Shared) : Prop where
  kin : (K2 w.params).In s₀.heap
  keep : ∀ b o, s₀.heap.get? b = some o → s.heap.get? b = some o
  new : s₀.heap.get? L = none
  loc : ∃ m, s.heap.Ns L m ∧ ∀ x v, l.lookup x = some v → m x = some v
  vis : vis s.heap = g
  gens : s.gens = s₀.gens
  drawn : s.drawn = s₀.drawn
  os : s.os = s₀.os
  prot : ∀ p ∈ pr, s.heap.get? p.1 = some p.2 ∧ p.1 ≠ L ∧ hid p.2 = true ∧ s₀.heap.get? p.1 = none
  nd : (pr.map (·.1)).Nodup
section
variable {w : World} {s₀ s : Shared} {L : Addr} {l : List (Str × Value)} {g : Vis} {pr : List (Addr × Obj)}
theorem Cx.to (C : Cx w s₀ L l g pr s) : To s₀ s := ⟨C.keep, C.gens, C.drawn, C.os⟩
theorem Cx.k (C : Cx w s₀ L l g pr s) : (K2 w.params).In s.heap := C.kin.keeps C.keep
theorem Cx.tok (C : Cx w s₀ L l g pr s) (t : Nat) : Cx w s₀ L l g pr { s with toks := t } := ⟨C.kin, C.keep, C.new, C.loc, C.vis, C.gens, C.drawn, C.os, C.prot, C.nd⟩
theorem Cx.at (C : Cx w s₀ L l g pr s) {a : Addr} {o : Obj} (e : g a = some o) : s.heap.get? a = some o := (vis_get (C.vis ▸ e)).1
theorem Cx.norm (C : Cx w s₀ L l g pr s) {l' : List (Str × Value)} (h : ∀ p ∈ l', l.lookup p.1 = some p.2) : Cx w s₀ L l' g pr s := by
  refine ⟨C.kin, C.keep, C.new, ?_, C.vis, C.gens, C.drawn, C.os, C.prot, C.nd⟩
  obtain ⟨m, hn, hm⟩ := C.loc
  refine ⟨m, hn, fun x v e => ?_⟩
  have : (x, v) ∈ l' := by
    clear h
    induction l' with
    | nil => cases e
    | cons p r ih =>
      obtain ⟨y, z⟩ := p
      simp only [List.lookup] at e
      split at e
      · rename_i q; cases e; rw [beq_iff_eq.mp q]; exact .head _
      · exact .tail _ (ih e)
  exact hm x v (h _ this)
end

noncomputable def subL : List (Str × Value) → List (Str × Value) → Prop
  | [], _ => True
  | p :: r, l => l.lookup p.1 = some p.2 ∧ subL r l
theorem subL_all : ∀ {l' l : List (Str × Value)}, subL l' l → ∀ p ∈ l', l.lookup p.1 = some p.2
  | p :: r, l, h, q, hq => by
    rcases List.mem_cons.mp hq with rfl | hq
    · exact h.1
    · exact subL_all h.2 q hq
theorem Cx.nrm {w : World} {s₀ s : Shared} {L : Addr} {l : List (Str × Value)} {g : Vis} {pr : List (Addr × Obj)} (C : Cx w s₀ L l g pr s) (l' : List (Str × Value)) (h : subL l' l) : Cx w s₀ L l' g pr s := C.norm (subL_all h)

theorem Cx.tl {w : World} {s₀ s : Shared} {L : Addr} {p : Str × Value} {l : List (Str × Value)} {g : Vis} {pr : List (Addr × Obj)} (C : Cx w s₀ L (p :: l) g pr s) (h : subL l (p :: l)) : Cx w s₀ L l g pr s := C.norm (subL_all h)
structure Ok (k : Nat) (A : Around) : Prop where
  hd : A.handled = none
  dp : A.depth + k ≤ 900
  un : A.units + 10 * k ≤ 9000
theorem Ok.deeper {k A} (o : Ok (k+1) A) (env : Env) : Ok k (A.deeper env) := ⟨o.hd, by have := o.dp; simp only [Around.deeper]; lia, by have := o.un; simp only [Around.deeper]; lia⟩
theorem Ok.in1 {k A} (o : Ok (k+1) A) : Ok k A.in1 := ⟨o.hd, by have := o.dp; show A.depth + k ≤ 900; lia, by have := o.un; show A.units + 1 + 10 * k ≤ 9000; lia⟩
theorem Ok.mono {k j A} (o : Ok k A) (h : j ≤ k) : Ok j A := ⟨o.hd, by have := o.dp; lia, by have := o.un; lia⟩
theorem Ok.room {k A} (o : Ok k A) : A.depth < recursionLimit := by have := o.dp; unfold recursionLimit; lia
theorem Ok.cl {k A} (o : Ok k A) : A.units < cLine := by have := o.un; unfold cLine; lia

noncomputable def keysStr : List DictEntry → Bool
  | [] => true
  | e :: r => (match e.key with | .str .. => true | _ => false) && keysStr r
theorem key_str {v : Value} (h : (match v with | .str .. => true | _ => false) = true) : ∃ n t, v = .str n t := by
  cases v <;> first | exact ⟨_, _, rfl⟩ | cases h
theorem keysStr_all {l : List DictEntry} (h : keysStr l = true) : ∀ e ∈ l, ∃ n t, e.key = .str n t := by
  induction l with
  | nil => intro e hm; cases hm
  | cons e r ih =>
    rw [keysStr, Bool.and_eq_true] at h
    intro e' hm
    rcases List.mem_cons.mp hm with rfl | m
    · exact key_str h.1
    · exact ih h.2 e' m
theorem noLimit {w : World} {h : Heap} (kin : (K2 w.params).In h) : h.NoLimit := by
  have key : ∃ c d es n sl, (K2 w.params).lookup 2 = some ⟨c, d, .dict es n, sl⟩ ∧ keysStr es.toList = true ∧ nsFind es "sys.recursionlimit" = none :=
    ⟨_, _, _, _, _, rfl, rfl, rfl⟩
  obtain ⟨c, d, es, n, sl, e1, e2, e3⟩ := key
  refine ⟨fun x => nsFind es x, ⟨_, es, n, kin _ _ e1, rfl, fun e he => keysStr_all e2 e (Array.mem_toList_iff.mpr he), fun _ => rfl⟩, e3⟩

noncomputable def Spec (w : World) (A : Around) (f : Addr) (args : List Value) (Post : Value → Vis → Vis → Prop) (s : Shared) : Prop :=
  ∀ (Q : Value → Shared → Prop) (E : Value → Shared → Prop), (∀ v s', To s s' → Post v (vis s.heap) (vis s'.heap) → Q v s') → wpAny (model P w) A (call (.ref f) args []) Q E s

theorem enter {w : World} {A : Around} {s : Shared} {f : Addr} {args : List Value} {Post : Value → Vis → Vis → Prop} {fd : FuncData} {body : List Stmt} {binds : List (Str × Value)} {oc od osl k}
    (kin : (K2 w.params).In s.heap) (hA : Ok k A)
    (hl : (K2 w.params).lookup f = some ⟨oc, od, .func fd, osl⟩)
    (hcd : codeIn (K2 w.params) fd.code fd.qualname = true)
    (hbody : fd.body = .stmts body) (hbind : bindArgs fd ⟨args, []⟩ = pure binds)
    (hcell : (fd.scope.names.all fun x => !(x.2 == .cell)) = true) (hloc : (binds.all fun x => fd.scope.names.lookup x.1 == some .local) = true)
    (hco : fd.scope.isCoroutine = false) (hgen : fd.scope.isGenerator = false) (hk : fd.scope.kind = .function)
    (h : ∀ L s', Cx w s L binds.reverse (vis s.heap) [] s' →
      wpAny (model P w) (A.deeper (callEnv fd L f)) (execs body (callEnv fd L f)) (fun fl s' => To s s' ∧ Post (match fl with | .ret v => v | _ => .none) (vis s.heap) (vis s'.heap)) (fun _ _ => False) s') :
    Spec w A f args Post s := by
  intro R E hR
  refine wpAny_call (codeAny_call_function hA.room (kin _ _ hl) rfl hco hgen hbody (codeRec_of kin hcd) (BindsTo.of_eq hbind _ _ _ _ ?_))
  refine wpAny_newFunctionEnv (fun x hx e => ?_) (fun x hx => ?_) (fun h₀ hns₀ hsb₀ => ⟨(noLimit kin).fresh _ hsb₀, codeAny_func ?_⟩) hk
  · have := List.all_eq_true.mp hcell x hx
    rw [e] at this; cases this
  · exact beq_iff_eq.mp (List.all_eq_true.mp hloc x hx)
  · have hv : ∀ b o, s.heap.get? b = some o → h₀.get? b = some o := fun b o e => hsb₀.extBut b o (Nat.ne_of_lt (Heap.lt_size e)) (Heap.get?_push_of_some _ e)
    have hnone : s.heap.get? s.heap.objs.size = none := by
      cases q : s.heap.get? s.heap.objs.size with
      | none => rfl
      | some o => exact absurd (Heap.lt_size q) (Nat.lt_irrefl _)
    refine wpAny_mono (h s.heap.objs.size { s with heap := h₀, toks := s.toks + binds.length } ⟨kin, hv, hnone, ⟨_, hns₀, fun x v e => e⟩, ?_, rfl, rfl, rfl, (fun _ h => nomatch h), List.nodup_nil⟩) (fun fl s' q => hR _ _ q.1 q.2) (fun _ _ q => q.elim)
    funext b
    by_cases hb : b = s.heap.objs.size
    · obtain ⟨o, es, ep, ho, hd, _⟩ := hns₀
      rw [hb, vis_dict ho hd, vis_none hnone]
    · refine vis_congr ((hsb₀.2 b hb).trans (Heap.get?_push_ne _ _ _ hb))

section
variable {w : World} {A : Around} {E : Value → Shared → Prop} {s s₀ : Shared} {L : Addr} {l : List (Str × Value)} {g : Vis} {pr : List (Addr × Obj)} {env : Env}

theorem nm_l {x : Str} {pos : Pos} {v : Value} {Q : Value → Shared → Prop} (C : Cx w s₀ L l g pr s) (hL : env.locals = L) (hk : env.scope.kind = .function) (hx : env.kindOf x = some .local) (hdb : (x == ("__debug__" : Str)) = false) (hv : l.lookup x = some v) (h : Q v s) :
    wpAny (model P w) A (eval (.Name x pos) env) Q E s := by
  obtain ⟨m, hn, hm⟩ := C.loc
  subst hL
  exact wpAny_Name (wpAny_loadName_local hk hx hn (hm _ _ hv) h) hdb
theorem ld_l {x : Str} {v : Value} {Q : Value → Shared → Prop} (C : Cx w s₀ L l g pr s) (hL : env.locals = L) (hk : env.scope.kind = .function) (hx : env.kindOf x = some .local) (hv : l.lookup x = some v) (h : Q v s) :
    wpAny (model P w) A (loadName env x) Q E s := by
  obtain ⟨m, hn, hm⟩ := C.loc
  subst hL
  exact wpAny_loadName_local hk hx hn (hm _ _ hv) h
theorem nm_g {x : Str} {pos : Pos} {v : Value} {Q : Value → Shared → Prop} (C : Cx w s₀ L l g pr s) (hg : env.globals = 3) (hk : env.scope.kind = .function) (hx : env.kindOf x = some .globalImplicit) (hdb : (x == ("__debug__" : Str)) = false)
    (hv : nsIn (K2 w.params) 3 x = some (some v)) (h : Q v s) : wpAny (model P w) A (eval (.Name x pos) env) Q E s := by
  refine Calls.Name_function_global hk hx ?_ hdb
  unfold loadGlobal
  refine wpAny_bind ?_
  rw [hg]
  exact (looks_nsIn C.k hv).here (wpAny_pure h)
theorem nm_b {x : Str} {pos : Pos} {v : Value} {Q : Value → Shared → Prop} (C : Cx w s₀ L l g pr s) (hg : env.globals = 3) (hb : env.builtins = 0) (hk : env.scope.kind = .function) (hx : env.kindOf x = some .globalImplicit) (hdb : (x == ("__debug__" : Str)) = false)
    (hv0 : nsIn (K2 w.params) 3 x = some none) (hv : nsIn (K2 w.params) 0 x = some (some v)) (h : Q v s) : wpAny (model P w) A (eval (.Name x pos) env) Q E s := by
  refine Calls.Name_function_global hk hx ?_ hdb
  unfold loadGlobal
  refine wpAny_bind ?_
  rw [hg]
  refine (looks_nsIn C.k hv0).here ?_
  refine wpAny_bind ?_
  rw [hb]
  exact (looks_nsIn C.k hv).here (wpAny_pure h)
theorem st_l {x : Str} {v : Value} {Q : Unit → Shared → Prop} (C : Cx w s₀ L l g pr s) (hL : env.locals = L) (hx : env.kindOf x = some .local) (hk : env.scope.kind = .function)
    (h : ∀ s', Cx w s₀ L ((x, v) :: l) g pr s' → Q () s') : wpAny (model P w) A (storeName env x v) Q E s := by
  obtain ⟨m, hn, hm⟩ := C.loc
  subst hL
  refine wpAny_storeName_local hx hn (fun h' hn' hs => h _ ⟨C.kin, fun b o e => ?_, C.new, ⟨_, hn', fun y u e => ?_⟩, ?_, C.gens, C.drawn, C.os, fun p hp => ⟨(hs.2 _ (C.prot p hp).2.1).trans (C.prot p hp).1, (C.prot p hp).2⟩, C.nd⟩) (by rw [hk]; rfl)
  · have : b ≠ env.locals := fun q => by rw [q, C.new] at e; cases e
    exact (hs.2 b this).trans (C.keep b o e)
  · simp only [List.lookup] at e
    split at e
    · rename_i q; cases e; rw [if_pos (beq_iff_eq.mp q)]
    · rename_i q; rw [if_neg (fun z => by rw [z] at q; simp at q)]; exact hm _ _ e
  · rw [← C.vis]
    funext b
    by_cases hb : b = env.locals
    · obtain ⟨o, es, ep, ho, hd, _⟩ := hn
      obtain ⟨o', es', ep', ho', hd', _⟩ := hn'
      rw [hb, vis_dict ho hd, vis_dict ho' hd']
    · exact vis_congr (hs.2 b hb)
theorem use {f : Addr} {args : List Value} {Post : Value → Vis → Vis → Prop} {Q : Value → Shared → Prop} (C : Cx w s₀ L l g pr s) (sp : Spec w A f args Post s)
    (h : ∀ v g' s', Ext g g' → Post v g g' → Cx w s₀ L l g' pr s' → Q v s') : wpAny (model P w) A (call (.ref f) args []) Q E s := by
  refine sp _ _ fun v s' t q => h v (vis s'.heap) s' (C.vis ▸ t.ext) (C.vis ▸ q) ?_
  obtain ⟨m, hn, hm⟩ := C.loc
  exact ⟨C.kin, fun b o e => t.keep b o (C.keep b o e), C.new, ⟨m, hn.keeps t.keep, hm⟩, rfl, t.gens.trans C.gens, t.drawn.trans C.drawn, t.os.trans C.os, fun p hp => ⟨t.keep _ _ (C.prot p hp).1, (C.prot p hp).2⟩, C.nd⟩
theorem cw_u {pos : Pos} {a : Addr} {fd : FuncData} {oc od osl} {x : Sem Value} {rest : List (Bool × Sem Value)} {Q : Value → Shared → Prop} (hl : (K2 w.params).lookup a = some ⟨oc, od, .func fd, osl⟩)
    (h : wpAny (model P w) A (spliced ((false, x) :: rest)) (fun vs s₁ => (K2 w.params).In s₁.heap ∧ wpAny (model P w) A (call (.ref a) vs []) Q E s₁) E s) :
    wpAny (model P w) A (callWith pos (.ref a) [] ((false, x) :: rest) []) Q E s :=
  Calls.callWith_function (fd := fd) (Calls.evalArgs_plain (wpAny_mono h (fun _ _ q => ⟨⟨q.1 _ _ hl, rfl⟩, q.2⟩) fun _ _ q => q))
end


section
variable {w : World} {A : Around} {E : Value → Shared → Prop} {s s₀ : Shared} {L : Addr} {l : List (Str × Value)} {g : Vis} {pr : List (Addr × Obj)} {env : Env}
theorem size_none (h : Heap) : h.get? h.objs.size = none := by
  cases q : h.get? h.objs.size with
  | none => rfl
  | some o => exact absurd (Heap.lt_size q) (Nat.lt_irrefl _)
/-- a hidden object more -/
theorem Cx.pushH (C : Cx w s₀ L l g pr s) {o : Obj} (hf : o.isFreed = false) (hh : hid o = true) (t : Nat) : Cx w s₀ L l g pr { s with heap := s.heap.push o, toks := t } := by
  obtain ⟨m, hn, hm⟩ := C.loc
  refine ⟨C.kin, fun b o' e => Heap.get?_push_of_some _ (C.keep b o' e), C.new, ⟨m, hn.push o, hm⟩, ?_, C.gens, C.drawn, C.os, fun p hp => ⟨Heap.get?_push_of_some _ (C.prot p hp).1, (C.prot p hp).2⟩, C.nd⟩
  rw [← C.vis]
  funext b
  by_cases hb : b = s.heap.objs.size
  · rw [hb, vis_hid (Heap.get?_push_size _ hf) hh, vis_none (size_none _)]
  · exact vis_congr (Heap.get?_push_ne _ _ _ hb)
/-- a seen object more -/
theorem Cx.push (C : Cx w s₀ L l g pr s) {o : Obj} (hf : o.isFreed = false) (hh : hid o = false) (t : Nat) :
    g s.heap.objs.size = none ∧ Cx w s₀ L l (put g s.heap.objs.size o) pr { s with heap := s.heap.push o, toks := t } := by
  obtain ⟨m, hn, hm⟩ := C.loc
  refine ⟨by rw [← C.vis, vis_none (size_none _)], C.kin, fun b o' e => Heap.get?_push_of_some _ (C.keep b o' e), C.new, ⟨m, hn.push o, hm⟩, ?_, C.gens, C.drawn, C.os, fun p hp => ⟨Heap.get?_push_of_some _ (C.prot p hp).1, (C.prot p hp).2⟩, C.nd⟩
  rw [← C.vis]
  funext b
  by_cases hb : b = s.heap.objs.size
  · rw [hb, vis_some (Heap.get?_push_size _ hf) hh, put_self]
  · rw [put_ne _ _ hb]; exact vis_congr (Heap.get?_push_ne _ _ _ hb)
/-- a seen object turned (not one of the caller's) -/
theorem Cx.upd (C : Cx w s₀ L l g pr s) {a : Addr} {o o' : Obj} (ha : g a = some o) (h0 : s₀.heap.get? a = none) {h' : Heap} (hs : Heap.SameBut a s.heap h') (hg : h'.get? a = some o') (hh : hid o' = false) (t : Nat) :
    Cx w s₀ L l (put g a o') pr { s with heap := h', toks := t } := by
  obtain ⟨m, hn, hm⟩ := C.loc
  have hn' := hn
  obtain ⟨oL, es, ep, hL, hLd, _⟩ := hn'
  have hne : L ≠ a := fun q => by rw [← q, ← C.vis, vis_dict hL hLd] at ha; cases ha
  refine ⟨C.kin, fun b o'' e => ?_, C.new, ⟨m, hn.sameBut hs hne, hm⟩, ?_, C.gens, C.drawn, C.os, fun p hp => ⟨(hs.2 _ fun q => ?_).trans (C.prot p hp).1, (C.prot p hp).2⟩, C.nd⟩
  rotate_right
  · have := (C.prot p hp).1
    rw [q] at this
    rw [← C.vis, vis_hid this (C.prot p hp).2.2.1] at ha; cases ha
  · have : b ≠ a := fun q => by rw [q, h0] at e; cases e
    exact (hs.2 b this).trans (C.keep b o'' e)
  · rw [← C.vis]
    funext b
    by_cases hb : b = a
    · rw [hb, vis_some hg hh, put_self]
    · rw [put_ne _ _ hb]; exact vis_congr (hs.2 b hb)
/-- what the rule of a text's slice is told -/
inductive SlS (w : World) (o vl vu : Value) (Q : Value → Shared → Prop) (s₃ : Shared) : Prop
  | intro {s₀ : Shared} {L : Addr} {l : List (Str × Value)} {g : Vis} {pr : List (Addr × Obj)} (x : Str) (t : Tok) (lo u : Option (Int × Tok)) (h1 : o = .str x t) (h2 : vl = partValue lo) (h3 : vu = partValue u) (h4 : x.length ≤ sizeLine) (y : Str) (h5 : Txt.slice x (lo.map (·.1)) (u.map (·.1)) = y)
    (C : Cx w s₀ L l g pr s₃) (h : ∀ t' s', Cx w s₀ L l g pr s' → Q (.str y t') s') : SlS w o vl vu Q s₃
/-- a slice of a text -/
theorem sl_str {value : Expr} {lower upper : Option Expr} {p pos : Pos} {Q : Value → Shared → Prop} (ht : ∀ o r, letTemporaryGo value o r = pure ())
    (h : wpAny (model P w) A (eval value env) (fun o s₁ => wpAny (model P w) A (evalPart lower env) (fun vl s₂ => wpAny (model P w) A (evalPart upper env) (fun vu s₃ =>
      SlS w o vl vu Q s₃) E s₂) E s₁) E s) :
    wpAny (model P w) A (eval (.Subscript value (.Slice lower upper none p) pos) env) Q E s := by
  refine wpAny_Subscript_str_slice (wpAny_mono h (fun o s₁ h₁ => wpAny_mono h₁ (fun vl s₂ h₂ => wpAny_mono h₂ (fun vu s₃ h₃ => ?_) fun _ _ q => q) fun _ _ q => q) fun _ _ q => q) ht
  obtain ⟨x, t, lo, u, e1, e2, e3, hsz, y, rfl, C, hQ⟩ := h₃
  exact ⟨x, t, lo, u, e1, e2, e3, post_val_or_str ⟨Nat.le_trans (Txt.slice_le x _ _) hsz, fun t' k => hQ t' _ (C.pushH rfl rfl k)⟩⟩
end

theorem it_t {a b : Prop} (h : a) : if true = true then a else b := h
theorem it_f {a b : Prop} (h : b) : if false = true then a else b := h
theorem it_nt {a b : Prop} (h : b) : if (!true) = true then a else b := h
theorem it_nf {a b : Prop} (h : a) : if (!false) = true then a else b := h
theorem it_of {c : Bool} {a b : Prop} (e : c = true) (h : a) : if c = true then a else b := by rw [e]; exact h
theorem it_no {c : Bool} {a b : Prop} (e : c = false) (h : b) : if c = true then a else b := by rw [e]; exact h
theorem nm_call {M : Model} {A : Around} {E : Value → Shared → Prop} {s : Shared} {env : Env} {x : Str} {np pos : Pos} {args : List Expr} {Q : Value → Shared → Prop}
    (h : wpAny M A (eval (.Name x np) env) (fun f s₁ => wpAny M A (callWith pos f [] (backTo pos (starEach args env)) []) Q E s₁) E s) :
    wpAny M A (eval (.Call (.Name x np) args [] pos) env) Q E s := wpAny_Call_Name_kw h
section
variable {w : World} {A : Around} {E : Value → Shared → Prop} {s s₀ : Shared} {L : Addr} {l : List (Str × Value)} {g : Vis} {pr : List (Addr × Obj)} {env : Env}
theorem cu1 {pos : Pos} {a : Addr} {fd : FuncData} {oc od osl} {e : Expr} {Q : Value → Shared → Prop} (hl : (K2 w.params).lookup a = some ⟨oc, od, .func fd, osl⟩) (hs : starEach [e] env = [(false, eval e env)])
    (h : wpAny (model P w) A (eval e env) (fun v s₁ => (K2 w.params).In s₁.heap ∧ wpAny (model P w) A (call (.ref a) [v] []) Q E s₁) E s) :
    wpAny (model P w) A (callWith pos (.ref a) [] (backTo pos (starEach [e] env)) []) Q E s := by
  rw [hs]
  refine cw_u hl ?_
  exact Calls.spliced_cons (wpAny_mono h (fun v s₁ q => Calls.spliced_nil q) fun _ _ q => q)
theorem cu2 {pos : Pos} {a : Addr} {fd : FuncData} {oc od osl} {e e' : Expr} {Q : Value → Shared → Prop} (hl : (K2 w.params).lookup a = some ⟨oc, od, .func fd, osl⟩) (hs : starEach [e, e'] env = [(false, eval e env), (false, eval e' env)])
    (h : wpAny (model P w) A (eval e env) (fun v s₁ => wpAny (model P w) A (eval e' env) (fun v' s₁ => (K2 w.params).In s₁.heap ∧ wpAny (model P w) A (call (.ref a) [v, v'] []) Q E s₁) E s₁) E s) :
    wpAny (model P w) A (callWith pos (.ref a) [] (backTo pos (starEach [e, e'] env)) []) Q E s := by
  rw [hs]
  refine cw_u hl ?_
  exact Calls.spliced_cons (wpAny_mono h (fun v s₁ q => Calls.spliced_cons (wpAny_mono q (fun v s₂ q => Calls.spliced_nil q) fun _ _ q => q)) fun _ _ q => q)
theorem cu3 {pos : Pos} {a : Addr} {fd : FuncData} {oc od osl} {e e' e2 : Expr} {Q : Value → Shared → Prop} (hl : (K2 w.params).lookup a = some ⟨oc, od, .func fd, osl⟩) (hs : starEach [e, e', e2] env = [(false, eval e env), (false, eval e' env), (false, eval e2 env)])
    (h : wpAny (model P w) A (eval e env) (fun v s₁ => wpAny (model P w) A (eval e' env) (fun v' s₁ => wpAny (model P w) A (eval e2 env) (fun v2 s₁ => (K2 w.params).In s₁.heap ∧ wpAny (model P w) A (call (.ref a) [v, v', v2] []) Q E s₁) E s₁) E s₁) E s) :
    wpAny (model P w) A (callWith pos (.ref a) [] (backTo pos (starEach [e, e', e2] env)) []) Q E s := by
  rw [hs]
  refine cw_u hl ?_
  exact Calls.spliced_cons (wpAny_mono h (fun v s₁ q => Calls.spliced_cons (wpAny_mono q (fun v s₂ q => Calls.spliced_cons (wpAny_mono q (fun v s₂ q => Calls.spliced_nil q) fun _ _ q => q)) fun _ _ q => q)) fun _ _ q => q)
end
section
variable {M : Model} {A : Around} {E : Value → Shared → Prop} {s : Shared} {env : Env}
theorem cb1 {pos : Pos} {id : String} {e : Expr} {Q : Value → Shared → Prop} (hs : starEach [e] env = [(false, eval e env)])
    (h : wpAny M A (eval e env) (fun v s₁ => wpAny M A (call (.builtin id) [v] []) Q E s₁) E s) :
    wpAny M A (callWith pos (.builtin id) [] (backTo pos (starEach [e] env)) []) Q E s := by
  rw [hs]
  refine Calls.callWith_builtin rfl (Calls.evalArgs_plain ?_)
  exact Calls.spliced_cons (wpAny_mono h (fun v s₁ q => Calls.spliced_nil q) fun _ _ q => q)
theorem cb2 {pos : Pos} {id : String} {e e' : Expr} {Q : Value → Shared → Prop} (hs : starEach [e, e'] env = [(false, eval e env), (false, eval e' env)])
    (h : wpAny M A (eval e env) (fun v s₁ => wpAny M A (eval e' env) (fun v' s₁ => wpAny M A (call (.builtin id) [v, v'] []) Q E s₁) E s₁) E s) :
    wpAny M A (callWith pos (.builtin id) [] (backTo pos (starEach [e, e'] env)) []) Q E s := by
  rw [hs]
  refine Calls.callWith_builtin rfl (Calls.evalArgs_plain ?_)
  exact Calls.spliced_cons (wpAny_mono h (fun v s₁ q => Calls.spliced_cons (wpAny_mono q (fun v s₂ q => Calls.spliced_nil q) fun _ _ q => q)) fun _ _ q => q)
/-- a pure value on the way -/
theorem mem1 {o : Expr} {name : Str} {apos pos : Pos} {args : List Expr} {Q : Value → Shared → Prop}
    (hbase : attributeBase o name env (eval o env) = eval o env)
    (hfew : ((backTo pos (starEach args env)).all (fun x => !x.1) && (backToKw pos (keywordEach [] env)).all (fun x => x.1.isSome)
      && decide (args.length + ([] : List Keyword).length + (if ([] : List Keyword).isEmpty then 0 else 1) < 30)) = true)
    (hline : (apos.endLine == pos.line) = true)
    {prog : Program} {w : World}
    {E : Value → Shared → Prop}
    (h : wpAny (model prog w) A (eval o env) (fun ov s₁ => MethodOnS prog w A E name ov pos (backTo pos (starEach args env)) Q s₁) E s) :
    wpAny (model prog w) A (eval (.Call (.Attribute o name apos) args [] pos) env) Q E s := wpAny_Call_method_lateS hbase hfew hline h
end
/-- the same at a lesser height -/
theorem wpAny_low {α : Type} {M : Model} {A A' : Around} {c : Sem α} {Q : α → Shared → Prop} {E : Value → Shared → Prop} {s : Shared} (h : wpAny M A' c Q E s) (h1 : A.handled = A'.handled) (h2 : A.depth ≤ A'.depth) (h3 : A'.frames = none) (h4 : A'.guards = none) (h5 : A.units ≤ A'.units) : wpAny M A c Q E s :=
  fun Γ p hΓ => h Γ p ⟨hΓ.1.trans h1, Nat.le_trans hΓ.2.1 h2, fun l e => (by rw [h3] at e; cases e), fun l e => (by rw [h4] at e; cases e), Nat.le_trans hΓ.2.2.2.2 h5⟩
noncomputable def Am : Around := { handled := none, depth := 899, frames := none, guards := none, units := 8990 }
theorem low {α : Type} {k M A} {c : Sem α} {Q : α → Shared → Prop} {E : Value → Shared → Prop} {s : Shared} (o : Ok (k+1) A) (h : wpAny M Am c Q E s) : wpAny M A c Q E s :=
  wpAny_low h o.hd (by have := o.dp; show A.depth ≤ 899; lia) rfl rfl (by have := o.un; show A.units ≤ 8990; lia)
/-- what a run's ledger says -/
theorem to_of {s : Shared} {h : Heap} {t : Nat} {news : List (Addr × Obj)} (D : X.Mem s.heap h [] news) : To s ⟨h, s.gens, s.drawn, t, s.os⟩ :=
  ⟨fun b o e => D.keep b o e (by simp [X.away]), rfl, rfl, rfl⟩
section
variable {M : Model} {A : Around} {E : Value → Shared → Prop} {s : Shared} {env : Env}
/-- a statement, what is behind it named -/
theorem ex_gen {st : Stmt} {r : List Stmt} {Q : Flow → Shared → Prop} (h : ∀ Q1 : Flow → Shared → Prop, (∀ s', wpAny M A (execs r env) Q E s' → Q1 .next s') → (∀ f s', f ≠ .next → Q f s' → Q1 f s') → wpAny M A (exec st env) Q1 E s) :
    wpAny M A (execs (st :: r) env) Q E s := by
  refine wpAny_execs_cons (h _ (fun s' x => x) fun f s' n x => ?_)
  cases f <;> first | exact absurd rfl n | exact x
theorem qnx {Q1 : Flow → Shared → Prop} {P : Shared → Prop} {s : Shared} (h : ∀ s', P s' → Q1 .next s') (p : P s) : Q1 .next s := h s p
theorem qot {Q1 Q : Flow → Shared → Prop} {f : Flow} {s : Shared} (h : ∀ f s', f ≠ .next → Q f s' → Q1 f s') (n : f ≠ .next) (p : Q f s) : Q1 f s := h f s n p
end
end Mine
end PartA1

section PartTx
open PySem PySem.StrLaws PySem.Builtin PySem.Builtin.Str
set_option Elab.async false
set_option linter.unusedVariables false
set_option linter.unusedSimpArgs false
namespace Mine
noncomputable abbrev T (l : List Nat) : Str := ⟨l.toArray⟩
theorem T_len (l : List Nat) : (T l).length = l.length := by show l.toArray.size = _; simp
theorem str_ext {a b : Str} (h : a.cps.toList = b.cps.toList) : a = b := by
  obtain ⟨⟨x⟩⟩ := a; obtain ⟨⟨y⟩⟩ := b
  exact congrArg (fun l => Str.mk ⟨l⟩) h
theorem T_app (a b : List Nat) : T a ++ T b = T (a ++ b) := str_ext (by show (a.toArray ++ b.toArray).toList = _; simp)
theorem T_inj {a b : List Nat} (h : T a = T b) : a = b := by
  have := congrArg (fun s : Str => s.cps.toList) h
  simpa using this
theorem T_beq (a b : List Nat) : (T a == T b) = (a == b) := by
  by_cases h : a = b
  · subst h; simp
  · have : ¬ T a = T b := fun e => h (T_inj e)
    rw [beq_eq_false_iff_ne.mpr h]; exact beq_eq_false_iff_ne.mpr this
theorem T_bne (a b : List Nat) : (T a != T b) = (a != b) := by unfold bne; rw [T_beq]
theorem slash_T : (Str.ofString "/") = T [47] := by decide
theorem dot_T : (Str.ofString ".") = T [46] := by decide
theorem dots_T : (Str.ofString "..") = T [46, 46] := by decide
theorem nl_T : (Str.ofString "\n") = T [10] := by decide
theorem crlf_T : (Str.ofString "\r\n") = T [13, 10] := by decide
theorem dcrlf_T : (Str.ofString ".\r\n") = T [46, 13, 10] := by decide
theorem a_T : (Str.ofString "a") = T [97] := by decide
theorem da_T : (Str.ofString ".a") = T [46, 97] := by decide
theorem ddd_T : (Str.ofString "...") = T [46, 46, 46] := by decide
theorem ah_T : (Str.ofString "a-") = T [97, 45] := by decide
theorem sdots_T : (Str.ofString "/./") = T [47, 46, 47] := by decide
theorem empty_T : (Str.ofString "") = T [] := by decide

theorem slice_T (l : List Nat) (lo hi : Option Int) (a b : Nat) (hab : a ≤ b) (hb : b ≤ l.length)
    (h : strSliceIndices lo hi 1 l.length = strSliceIndices (some (a : Int)) (some (b : Int)) 1 l.length) : Txt.slice (T l) lo hi = T ((l.drop a).take (b - a)) := by
  unfold Txt.slice
  have hlen : (T l).length = l.length := T_len l
  rw [hlen, h]
  have e := sliced_plain (T l) hab (by rw [hlen]; exact hb)
  rw [hlen] at e
  rw [e]
  have e2 : (T l).cps.toList = l := by simp
  rw [e2]
  split
  · rename_i q
    have q' : (strSliceIndices (some (a : Int)) (some (b : Int)) 1 l.length).length = l.length := by simpa using q
    rw [strSliceIndices_plain hab hb] at q'
    simp at q'
    have ha : a = 0 := by lia
    have hbl : b = l.length := by lia
    subst ha; subst hbl; simp
  · rfl
noncomputable def clp (n : Nat) (d : Int) : Option Int → Int
  | none => d
  | some i => max 0 (min (if i < 0 then i + n else i) n)
theorem clp_idem (n : Nat) (d : Int) (o : Option Int) (hd : 0 ≤ d ∧ d ≤ n) : clp n d (some (clp n d o)) = clp n d o := by
  cases o with
  | none => unfold clp; simp only; split <;> lia
  | some i => unfold clp; simp only; split <;> split <;> lia
theorem indices_eq (lo hi : Option Int) (n : Nat) : strSliceIndices lo hi 1 n = sliceRange (clp n 0 lo) (clp n n hi) 1 := by
  unfold strSliceIndices
  simp only [show ((1 : Int) > 0) = True from by simp, if_true]
  cases lo <;> cases hi <;> rfl
theorem slice_ge (l : List Nat) (lo hi : Option Int) (a b : Nat) (hb : b ≤ l.length) (ha : a ≤ l.length)
    (e1 : clp l.length 0 lo = (a : Int)) (e2 : clp l.length l.length hi = (b : Int)) : Txt.slice (T l) lo hi = T ((l.drop a).take (b - a)) := by
  have key : ∀ x : Nat, x ≤ l.length → ∀ d : Int, clp l.length d (some (x : Int)) = (x : Int) := fun x hx d => by unfold clp; simp only; split <;> lia
  by_cases hab : a ≤ b
  · refine slice_T l lo hi a b hab hb ?_
    rw [indices_eq, indices_eq, e1, e2, key a ha, key b hb]
  · have e : strSliceIndices lo hi 1 l.length = strSliceIndices (some (a : Int)) (some (a : Int)) 1 l.length := by
      rw [indices_eq, indices_eq, e1, e2, key a ha, key a ha]
      unfold sliceRange
      simp only [show ((1 : Int) > 0) = True from by simp, if_true]
      rw [if_neg (by lia), if_neg (by lia)]
    rw [slice_T l lo hi a a (Nat.le_refl _) ha e]
    have : b - a = 0 := by lia
    rw [this]; simp
theorem slice_from (l : List Nat) (i : Nat) (h : i ≤ l.length) : Txt.slice (T l) (some (i : Int)) none = T (l.drop i) := by
  rw [slice_ge l (some (i : Int)) none i l.length (Nat.le_refl _) h (by unfold clp; simp only; split <;> lia) rfl]
  rw [List.take_of_length_le (by simp)]
theorem slice_upto (l : List Nat) (i : Nat) (h : i ≤ l.length) : Txt.slice (T l) none (some (i : Int)) = T (l.take i) := by
  rw [slice_ge l none (some (i : Int)) 0 i h (Nat.zero_le _) rfl (by unfold clp; simp only; split <;> lia)]
  simp
theorem slice_mid (l : List Nat) (i j : Nat) (h : i ≤ l.length) (hj : j ≤ l.length) : Txt.slice (T l) (some (i : Int)) (some (j : Int)) = T ((l.drop i).take (j - i)) :=
  slice_ge l (some (i : Int)) (some (j : Int)) i j hj h (by unfold clp; simp only; split <;> lia) (by unfold clp; simp only; split <;> lia)
/-- short texts too -/
theorem slice_first (l : List Nat) : Txt.slice (T l) none (some 1) = T (l.take 1) := by
  cases l with
  | nil => exact slice_ge [] none (some 1) 0 0 (Nat.le_refl _) (Nat.le_refl _) rfl (by decide)
  | cons c r => exact slice_upto (c :: r) 1 (by simp)
theorem slice_rest (l : List Nat) : Txt.slice (T l) (some 1) none = T (l.drop 1) := by
  cases l with
  | nil => exact slice_ge [] (some 1) none 0 0 (Nat.le_refl _) (Nat.le_refl _) (by decide) rfl
  | cons c r => exact slice_from (c :: r) 1 (by simp)

theorem at_one {l : List Nat} {c i : Nat} : At (T l) (T [c]) (T l).length i ↔ l[i]? = some c := by
  unfold At
  rw [subAt_eq, T_len, T_len]
  have e2 : (T l).cps.toList = l := by simp
  have e3 : (T [c]).cps.toList = [c] := by simp
  rw [e2, e3]
  constructor
  · rintro ⟨h1, h2⟩
    have h2' := beq_iff_eq.mp h2
    have := congrArg (fun x => x[0]?) h2'
    simpa using this
  · intro h
    have hl := (List.getElem?_eq_some_iff.mp h).1
    refine ⟨by simp; lia, beq_iff_eq.mpr ?_⟩
    show List.take 1 (List.drop i l) = [c]
    rw [List.drop_eq_getElem_cons hl]
    rw [(List.getElem?_eq_some_iff.mp h).2]; rfl
theorem startswith_T (l : List Nat) (c : Nat) : Txt.startswith (T l) (T [c]) = (l.head? == some c) := by
  unfold Txt.startswith
  rw [subAt_eq, T_len, T_len]
  have e2 : (T l).cps.toList = l := by simp
  have e3 : (T [c]).cps.toList = [c] := by simp
  rw [e2, e3]
  cases l with
  | nil => rfl
  | cons a r =>
    simp only [List.length_cons, List.length_nil, List.drop_zero, List.take_succ_cons, List.take_zero, List.head?_cons]
    by_cases h : a = c
    · subst h; simp
    · have : ¬ (some a = some c) := fun e => h (Option.some.inj e)
      rw [beq_eq_false_iff_ne.mpr this, beq_eq_false_iff_ne.mpr (fun e => h (List.cons.inj e).1)]; simp
theorem endswith_T (l : List Nat) (c : Nat) : Txt.endswith (T l) (T [c]) = (l.getLast? == some c) := by
  unfold Txt.endswith
  rw [subAt_eq, T_len, T_len]
  have e2 : (T l).cps.toList = l := by simp
  have e3 : (T [c]).cps.toList = [c] := by simp
  rw [e2, e3]
  rcases List.eq_nil_or_concat l with rfl | ⟨q, a, rfl⟩
  · rfl
  · rw [List.concat_eq_append]
    have h1 : (q ++ [a]).length - [c].length = q.length := by simp
    rw [h1, List.drop_left]
    simp only [List.length_append, List.length_cons, List.length_nil, List.take_succ_cons, List.take_zero, List.getLast?_append, List.getLast?_singleton, Option.some_or]
    by_cases h : a = c
    · subst h; simp
    · have : ¬ (some a = some c) := fun e => h (Option.some.inj e)
      rw [beq_eq_false_iff_ne.mpr this, beq_eq_false_iff_ne.mpr (fun e => h (List.cons.inj e).1)]; simp
theorem rfind_T {p n : List Nat} (hn : 47 ∉ n) : Txt.rfind (T (p ++ 47 :: n)) (T [47]) = (p.length : Int) := by
  have hp : (p ++ 47 :: n)[p.length]? = some 47 := by simp
  unfold Txt.rfind
  rcases last_spec (T (p ++ 47 :: n)) (T [47]) with ⟨e, h⟩ | ⟨i, e, hi, hl⟩
  · exact absurd (at_one.mpr hp) (h _)
  · rw [e]
    have h1 := at_one.mp hi
    have : i = p.length := by
      rcases Nat.lt_trichotomy i p.length with q | q | q
      · exact absurd (at_one.mpr hp) (hl _ q)
      · exact q
      · exfalso
        rw [List.getElem?_append_right (by lia)] at h1
        have : i - p.length = (i - p.length - 1) + 1 := by lia
        rw [this, List.getElem?_cons_succ] at h1
        exact hn (List.mem_of_getElem? h1)
    rw [this]
theorem rstrip_T {p : List Nat} (hp : p.getLast? ≠ some 47) : Txt.rstripChars (T (p ++ [47])) (T [47]) = T p := by
  unfold Txt.rstripChars Txt.stripBy
  have e2 : (T (p ++ [47])).cps.toList = p ++ [47] := by simp
  have hl : stripLo (T [47]).cps.contains false (T (p ++ [47])) = 0 := rfl
  have hh : stripHi (T [47]).cps.contains true (T (p ++ [47])) 0 = p.length := by
    unfold stripHi
    rw [if_pos rfl, T_len, e2]
    have : (List.takeWhile (T [47]).cps.contains (List.drop 0 (p ++ [47])).reverse) = [47] := by
      simp only [List.drop_zero, List.reverse_append, List.reverse_cons, List.reverse_nil, List.nil_append, List.cons_append]
      rw [List.takeWhile_cons_of_pos (by simp)]
      congr 1
      rcases List.eq_nil_or_concat p with rfl | ⟨q, c, rfl⟩
      · rfl
      · rw [List.concat_eq_append, List.reverse_append]
        simp only [List.reverse_cons, List.reverse_nil, List.nil_append, List.cons_append]
        rw [List.takeWhile_cons_of_neg]
        intro h
        apply hp
        have : c = 47 := by simpa using h
        subst this; simp
    rw [this]; simp
  unfold stripSame stripped
  rw [hl, hh, if_neg (by rw [T_len]; simp)]
  refine str_ext ?_
  show ((T (p ++ [47])).cps.extract 0 p.length).toList = _
  simp
end Mine
end PartTx

section PartR
open PySem PySem.W PyProof.Rows PySem.W.X
set_option Elab.async false
set_option maxRecDepth 100000
set_option maxHeartbeats 400000
set_option linter.unusedVariables false
set_option hygiene false
namespace Mine
theorem const_T {M : Model} {A : Around} {E : Value → Shared → Prop} {s : Shared} {env : Env} {x : Str} {l : List Nat} {k : Nat} {pos : Pos} {Q : Value → Shared → Prop} (e : x = T l) (h : Q (.str (T l) s.toks) { s with toks := s.toks + 1 }) : wpAny M A (eval (.Constant (.str x) k pos) env) Q E s := by
  subst e; exact Calls.Constant_str h
noncomputable def tupO (vs : List Value) : Obj := { cls := .type "tuple", data := .seq vs.toArray }
noncomputable def lstO (vs : List Value) (n : Nat) : Obj := { cls := .type "list", data := .seq vs.toArray n }
theorem tupO_hid (vs : List Value) : hid (tupO vs) = false := rfl
theorem lstO_hid (vs : List Value) (n : Nat) : hid (lstO vs n) = false := rfl
section
variable {w : World} {A : Around} {E : Value → Shared → Prop} {s s₀ : Shared} {L : Addr} {l : List (Str × Value)} {g : Vis} {pr : List (Addr × Obj)} {env : Env}
theorem Cx.grow (C : Cx w s₀ L l g pr s) {h' : Heap} (k : ∀ b o, s.heap.get? b = some o → h'.get? b = some o) (t : Nat) : Ext g (Mine.vis h') ∧ Cx w s₀ L l (Mine.vis h') pr { s with heap := h', toks := t } := by
  obtain ⟨m, hn, hm⟩ := C.loc
  refine ⟨?_, C.kin, fun b o e => k b o (C.keep b o e), C.new, ⟨m, hn.keeps k, hm⟩, rfl, C.gens, C.drawn, C.os, fun p hp => ⟨k _ _ (C.prot p hp).1, (C.prot p hp).2⟩, C.nd⟩
  rw [← C.vis]
  intro a o e
  have ⟨h1, h2⟩ := vis_get e
  exact vis_some (k _ _ h1) h2
theorem mk_obj {o : Obj} {Q : Value → Shared → Prop} (C : Cx w s₀ L l g pr s) (hf : o.isFreed = false) (hh : hid o = false) (h : ∀ a s', g a = none → s₀.heap.get? a = none → Cx w s₀ L l (put g a o) pr s' → Q (.ref a) s') :
    Q (.ref s.heap.objs.size) { s with heap := s.heap.push o } := by
  have z := C.push hf hh s.toks
  refine h _ _ z.1 ?_ z.2
  cases q : s₀.heap.get? s.heap.objs.size with
  | none => rfl
  | some o => exact absurd (Heap.lt_size (C.keep _ _ q)) (Nat.lt_irrefl _)
/-- what the rule of a new object is told -/
inductive MkO (w : World) (o : Obj) (n : Nat) (Q : Value → Shared → Prop) (s₁ : Shared) : Prop
  | intro {s₀ : Shared} {L : Addr} {l : List (Str × Value)} {g : Vis} {pr : List (Addr × Obj)} (hl : n ≤ sizeLine) (C : Cx w s₀ L l g pr s₁) (h : ∀ a s', g a = none → s₀.heap.get? a = none → Cx w s₀ L l (put g a o) pr s' → Q (.ref a) s') : MkO w o n Q s₁
theorem tup_ {elts : List Expr} {k : Nat} {pos : Pos} {Q : Value → Shared → Prop}
    (h : wpAny (model P w) A (spliced (backTo pos (starEach elts env)))
      (fun vs s₁ => MkO w (tupO vs) vs.length Q s₁) E s) : wpAny (model P w) A (eval (.Tuple elts k pos) env) Q E s :=
  wpAny_Tuple (wpAny_mono h (fun vs s₁ ⟨h1, C, h2⟩ => ⟨h1, mk_obj C rfl rfl h2⟩) fun _ _ q => q)
theorem lst_ {elts : List Expr} {pos : Pos} {Q : Value → Shared → Prop}
    (h : wpAny (model P w) A (spliced (backTo pos (starEach elts env)))
      (fun vs s₁ => MkO w (lstO vs 0) vs.length Q s₁) E s) : wpAny (model P w) A (eval (.List elts pos) env) Q E s :=
  wpAny_List (wpAny_mono h (fun vs s₁ ⟨h1, C, h2⟩ => ⟨h1, mk_obj C rfl rfl h2⟩) fun _ _ q => q)
theorem Cx.got {a : Addr} {o : Obj} (C : Cx w s₀ L l (put g a o) pr s) : Mine.vis s.heap a = some o := by rw [C.vis, put_self]
theorem Cx.isTup {a : Addr} {vs : List Value} (C : Cx w s₀ L l g pr s) (e : g a = some (tupO vs)) : IsTup s.heap a vs.toArray := ⟨_, C.at e, rfl, 0, rfl⟩
theorem Cx.isList {a : Addr} {vs : List Value} {n : Nat} (C : Cx w s₀ L l g pr s) (e : g a = some (lstO vs n)) : s.heap.IsList a vs.toArray := ⟨_, C.at e, rfl, n, rfl⟩

noncomputable def BSpec (w : World) (A : Around) (f : Value) (args : List Value) (Post : Value → Vis → Vis → Prop) (s : Shared) : Prop :=
  ∀ (Q : Value → Shared → Prop) (E : Value → Shared → Prop), (∀ v s', To s s' → Post v (Mine.vis s.heap) (Mine.vis s'.heap) → Q v s') → wpAny (model P w) A (call f args []) Q E s
theorem useB {f : Value} {args : List Value} {Post : Value → Vis → Vis → Prop} {Q : Value → Shared → Prop} (C : Cx w s₀ L l g pr s) (sp : BSpec w A f args Post s)
    (h : ∀ v g' s', Ext g g' → Post v g g' → Cx w s₀ L l g' pr s' → Q v s') : wpAny (model P w) A (call f args []) Q E s := by
  refine sp _ _ fun v s' t q => h v (Mine.vis s'.heap) s' (C.vis ▸ t.ext) (C.vis ▸ q) ?_
  obtain ⟨m, hn, hm⟩ := C.loc
  exact ⟨C.kin, fun b o e => t.keep b o (C.keep b o e), C.new, ⟨m, hn.keeps t.keep, hm⟩, rfl, t.gens.trans C.gens, t.drawn.trans C.drawn, t.os.trans C.os, fun p hp => ⟨t.keep _ _ (C.prot p hp).1, (C.prot p hp).2⟩, C.nd⟩
/-- unpack a tuple -/
theorem unp {elts : List Expr} {k} {pos : Pos} {t : Addr} {vs : List Value} {Q : Unit → Shared → Prop} (C : Cx w s₀ L l g pr s) (e : g t = some (tupO vs))
    (hh : A.handled = none) (hn : (assignEach elts env).length = vs.length) (hstar : (assignEach elts env).findIdx? (·.1) = none)
    (h : ∀ g' s', Ext g g' → Cx w s₀ L l g' pr s' → wpAny (model P w) A (assignInOrder ((assignEach elts env).map (·.2)) vs) Q E s') :
    wpAny (model P w) A (assign (.Tuple elts k pos) env (.ref t)) Q E s := by
  refine assign_Tuple_tuple hh (C.isTup e) (by rw [hn]; simp) hstar fun h' he => ?_
  have z := C.grow (h' := h') (fun b o q => he b o (Nat.ne_of_lt (Heap.lt_size q)) q) s.toks
  exact h _ _ z.1 z.2
end
noncomputable def Am0 : Around := { handled := none, depth := 900, frames := none, guards := none, units := 9000 }
theorem low0 {α : Type} {k : Nat} {M : Model} {A : Around} {c : Sem α} {Q : α → Shared → Prop} {E : Value → Shared → Prop} {s : Shared} (o : Ok k A) (h : wpAny M Am0 c Q E s) : wpAny M A c Q E s :=
  wpAny_low h o.hd (by have := o.dp; show A.depth ≤ 900; lia) rfl rfl (by have := o.un; show A.units ≤ 9000; lia)
local macro_rules | `(tactic| x_close) => `(tactic| first | exact hQ _ _ (fun b o e => (by assumption : Mem s.heap _ [] _).keep b o e (by simp [X.away])) | exact hQ _ _ (fun _ _ e => e))
theorem isi_str {w : World} {A : Around} {E : Value → Shared → Prop} {s : Shared} {x : Str} {t : Tok} {k : Nat} {Q : Value → Shared → Prop} (kin : (K2 w.params).In s.heap) (o : Ok k A) (hQ : ∀ h t', (∀ b o, s.heap.get? b = some o → h.get? b = some o) → Q (.bool false) { s with heap := h, toks := t' }) :
    wpAny (model P w) A (call (.builtin "isinstance") [.str x t, .type "bytes"]) Q E s := by
  refine low0 o ?_
  x_run
theorem isi_bytes {w A s k} {x : Str} {t : Tok} (kin : (K2 w.params).In s.heap) (o : Ok (k+1) A) : BSpec w A (.builtin "isinstance") [.str x t, .type "bytes"] (fun v _ _ => v = .bool false) s :=
  fun Q E hQ => isi_str kin o fun h t' k => hQ _ _ ⟨k, rfl, rfl, rfl⟩ rfl
end Mine
end PartR

section PartLp
open PySem PySem.W PyProof.Rows
set_option Elab.async false
set_option maxRecDepth 100000
set_option maxHeartbeats 400000
set_option linter.unusedVariables false
namespace Mine
structure Iters (w : World) (A : Around) (n : Nat) (IP : Nat → Value → Vis → Prop) (it : Addr) (Pos : Nat → Obj → Prop) (St : Vis → Prop) : Prop where
  next : ∀ {i : Nat} {o : Obj} {s₀ : Shared} {L : Addr} {l : List (Str × Value)} {g : Vis} {pr : List (Addr × Obj)} {s : Shared} {Q : Option Value → Shared → Prop} {E : Value → Shared → Prop},
    i < n → Pos i o → St g → Cx w s₀ L l g ((it, o) :: pr) s →
    (∀ v o' g' s', Ext g g' → IP i v g' → Pos (i + 1) o' → Cx w s₀ L l g' ((it, o') :: pr) s' → Q (some v) s') → wpAny (model P w) A (pyNext (.ref it)) Q E s
  stop : ∀ {o : Obj} {s₀ : Shared} {L : Addr} {l : List (Str × Value)} {g : Vis} {pr : List (Addr × Obj)} {s : Shared} {Q : Option Value → Shared → Prop} {E : Value → Shared → Prop},
    Pos n o → St g → Cx w s₀ L l g ((it, o) :: pr) s → (∀ g' s', Ext g g' → Cx w s₀ L l g' pr s' → Q none s') → wpAny (model P w) A (pyNext (.ref it)) Q E s
section
variable {w : World} {A : Around} {E : Value → Shared → Prop} {s s₀ : Shared} {L : Addr} {l : List (Str × Value)} {g : Vis} {pr : List (Addr × Obj)} {env : Env}
/-- forget the newest protected object -/
theorem Cx.unp {p : Addr × Obj} (C : Cx w s₀ L l g (p :: pr) s) : Cx w s₀ L l g pr s := ⟨C.kin, C.keep, C.new, C.loc, C.vis, C.gens, C.drawn, C.os, fun q hq => C.prot q (.tail _ hq), (List.nodup_cons.mp C.nd).2⟩
theorem size_none₀ (C : Cx w s₀ L l g pr s) : s₀.heap.get? s.heap.objs.size = none := by
  cases q : s₀.heap.get? s.heap.objs.size with
  | none => rfl
  | some o => exact absurd (Heap.lt_size (C.keep _ _ q)) (Nat.lt_irrefl _)
theorem Cx.Lne (C : Cx w s₀ L l g pr s) : s.heap.objs.size ≠ L := by
  obtain ⟨m, hn, _⟩ := C.loc
  exact Nat.ne_of_gt hn.lt
/-- a hidden object more, protected -/
theorem Cx.pushP (C : Cx w s₀ L l g pr s) {o : Obj} (hf : o.isFreed = false) (hh : hid o = true) (t : Nat) : Cx w s₀ L l g ((s.heap.objs.size, o) :: pr) { s with heap := s.heap.push o, toks := t } := by
  have z := C.pushH hf hh t
  refine ⟨z.kin, z.keep, z.new, z.loc, z.vis, z.gens, z.drawn, z.os, fun p hp => ?_, List.nodup_cons.mpr ⟨fun hm => ?_, C.nd⟩⟩
  · cases hp with
    | head => exact ⟨Heap.get?_push_size _ hf, C.Lne, hh, size_none₀ C⟩
    | tail _ h => exact z.prot p h
  · obtain ⟨p, hp, e⟩ := List.mem_map.mp hm
    exact absurd (Heap.lt_size (C.prot p hp).1) (by rw [e]; exact Nat.lt_irrefl _)
/-- the newest protected object turned, more objects perhaps -/
theorem Cx.turnP {it : Addr} {o o' : Obj} (C : Cx w s₀ L l g ((it, o) :: pr) s) {h' : Heap} (k : ∀ b x, b ≠ it → s.heap.get? b = some x → h'.get? b = some x) (e : h'.get? it = some o') (hh : hid o' = true) (t : Nat) :
    Ext g (Mine.vis h') ∧ Cx w s₀ L l (Mine.vis h') ((it, o') :: pr) { s with heap := h', toks := t } := by
  have z := C.prot (it, o) (.head _)
  obtain ⟨m, hn, hm⟩ := C.loc
  refine ⟨fun a x q => ?_, C.kin, fun b x q => ?_, C.new, ⟨m, ?_, hm⟩, rfl, C.gens, C.drawn, C.os, fun p hp => ?_, C.nd⟩
  · rw [← C.vis] at q
    have ⟨h1, h2⟩ := vis_get q
    have : a ≠ it := fun y => by rw [y, vis_hid z.1 z.2.2.1] at q; cases q
    exact vis_some (k a x this h1) h2
  · have : b ≠ it := fun y => by rw [y, z.2.2.2] at q; cases q
    exact k b x this (C.keep b x q)
  · obtain ⟨ob, es, ep, ho, r⟩ := hn
    exact ⟨ob, es, ep, k _ _ (Ne.symm z.2.1) ho, r⟩
  · cases hp with
    | head => exact ⟨e, z.2.1, hh, z.2.2.2⟩
    | tail _ h =>
      have y := C.prot p (.tail _ h)
      refine ⟨k _ _ (fun q => ?_) y.1, y.2⟩
      exact (List.nodup_cons.mp C.nd).1 (List.mem_map.mpr ⟨p, h, q⟩)
/-- the newest protected object let go, more objects perhaps -/
theorem Cx.dropP {it : Addr} {o : Obj} (C : Cx w s₀ L l g ((it, o) :: pr) s) {h' : Heap} (k : ∀ b x, b ≠ it → s.heap.get? b = some x → h'.get? b = some x) (t : Nat) :
    Ext g (Mine.vis h') ∧ Cx w s₀ L l (Mine.vis h') pr { s with heap := h', toks := t } := by
  have z := C.prot (it, o) (.head _)
  obtain ⟨m, hn, hm⟩ := C.loc
  refine ⟨fun a x q => ?_, C.kin, fun b x q => ?_, C.new, ⟨m, ?_, hm⟩, rfl, C.gens, C.drawn, C.os, fun p h => ?_, (List.nodup_cons.mp C.nd).2⟩
  · rw [← C.vis] at q
    have ⟨h1, h2⟩ := vis_get q
    have : a ≠ it := fun y => by rw [y, vis_hid z.1 z.2.2.1] at q; cases q
    exact vis_some (k a x this h1) h2
  · have : b ≠ it := fun y => by rw [y, z.2.2.2] at q; cases q
    exact k b x this (C.keep b x q)
  · obtain ⟨ob, es, ep, ho, r⟩ := hn
    exact ⟨ob, es, ep, k _ _ (Ne.symm z.2.1) ho, r⟩
  · have y := C.prot p (.tail _ h)
    refine ⟨k _ _ (fun q => ?_) y.1, y.2⟩
    exact (List.nodup_cons.mp C.nd).1 (List.mem_map.mpr ⟨p, h, q⟩)

/-- a for over anything that iterates -/
theorem for_core {n : Nat} {IP : Nat → Value → Vis → Prop} {it : Addr} {Pos : Nat → Obj → Prop} {St : Vis → Prop} {target : Expr} {body : List Stmt} {R : Result → Shared → Prop} {o : Obj}
    (I : Iters w A n IP it Pos St) (J : Nat → List (Str × Value) → Vis → Prop)
    (hSt : ∀ i l g, J i l g → St g) (hJ : ∀ i l g g', Ext g g' → J i l g → J i l g')
    (turn : ∀ i v l g o' s, i < n → J i l g → IP i v g → Cx w s₀ L l g ((it, o') :: pr) s →
      wpAny (model P w) A (assign target env v) (fun _ s₂ => wpAny (model P w) A (execs body env) (fun f s' => match f with
        | .next | .cont => ∃ l' g', J (i + 1) l' g' ∧ Cx w s₀ L l' g' ((it, o') :: pr) s'
        | .brk => False
        | .ret v => R (.ok (.ret v)) s') (fun _ _ => False) s₂) (fun _ _ => False) s)
    (fin : ∀ l g s', J n l g → Cx w s₀ L l g pr s' → R (.ok .next) s')
    (j0 : J 0 l g) (p0 : Pos 0 o) (C : Cx w s₀ L l g ((it, o) :: pr) s) (ht : ∀ v, letOwnedTupleGo target (.ref it) v = pure ()) :
    codeAny (model P w) A (.forLoop target (.ref it) body [] env) R s := by
  refine codeAny_forLoop (I := fun k s => ∃ i o l g, k = n - i ∧ i ≤ n ∧ Pos i o ∧ J i l g ∧ Cx w s₀ L l g ((it, o) :: pr) s) ?_ n ⟨0, o, l, g, rfl, Nat.zero_le _, p0, j0, C⟩ ht
  rintro k s ⟨i, o, l, g, rfl, hi, hp, hj, C⟩
  by_cases h : i < n
  · refine I.next h hp (hSt _ _ _ hj) C fun v o' g' s' e ip hp' C' => ?_
    refine wpAny_mono (turn i v l g' o' s' h (hJ _ _ _ _ e hj) ip C') (fun _ s₂ h₂ => wpAny_mono h₂ (fun f s₃ h₃ => ?_) fun _ _ q => q.elim) fun _ _ q => q.elim
    cases f with
    | next => obtain ⟨l', g', j', C3⟩ := h₃; exact ⟨n - (i + 1), by omega, i + 1, o', l', g', rfl, h, hp', j', C3⟩
    | cont => obtain ⟨l', g', j', C3⟩ := h₃; exact ⟨n - (i + 1), by omega, i + 1, o', l', g', rfl, h, hp', j', C3⟩
    | brk => exact h₃.elim
    | ret v => exact h₃
  · have : i = n := by omega
    subst this
    refine I.stop hp (hSt _ _ _ hj) C fun g' s' e C' => ?_
    exact wpAny_execs_nil (fin l g' s' (hJ _ _ _ _ e hj) C')
end
/-! lists -/
noncomputable def ltPos (a : Addr) (i : Nat) (o : Obj) : Prop := o.cls = .type "list_iterator" ∧ o.data = .fields #[.ref a, .int i 0]
theorem hid_cls {o : Obj} {t : String} (h : o.cls = .type t) (ht : (["slice", "list_iterator", "tuple_iterator", "range_iterator", "zip"] : List String).contains t = true) : hid o = true := by
  unfold hid; rw [h]; simp only [ht, Bool.or_true]
theorem iters_list {w : World} {A : Around} {a it : Addr} {vs : List Value} {n : Nat} (hh : A.handled = none) :
    Iters w A vs.length (fun i v _ => vs[i]? = some v) it (ltPos a) (fun g => g a = some (lstO vs n)) := by
  refine ⟨?_, ?_⟩
  · intro i o s₀ L l g pr s Q E hi hp hg C h
    have hit : s.heap.IsListIter it a i := ⟨o, (C.prot _ (.head _)).1, hp.1, hp.2⟩
    refine wpAny_pyNext_list_item hit (C.isList hg) (x := vs[i]) (by simp [hi]) fun h' hit' hs => ?_
    obtain ⟨o', ho', hc', hd'⟩ := hit'
    have z := C.turnP (fun b x hb e => (hs.2 b hb).trans e) ho' (hid_cls hc' (by decide)) s.toks
    exact h _ o' _ _ z.1 (by simp [hi]) ⟨hc', hd'⟩ z.2
  · intro o s₀ L l g pr s Q E hp hg C h
    have hit : s.heap.IsListIter it a vs.length := ⟨o, (C.prot _ (.head _)).1, hp.1, hp.2⟩
    refine wpAny_pyNext_list_end hh hit (C.isList hg) (by simp) fun h' he => ?_
    have z := C.dropP (fun b x hb e => he b x hb e) s.toks
    exact h _ _ z.1 z.2
theorem piter_list {w : World} {A : Around} {E : Value → Shared → Prop} {s s₀ : Shared} {L : Addr} {l : List (Str × Value)} {g : Vis} {pr : List (Addr × Obj)} {a : Addr} {vs : List Value} {n : Nat} {Q : Value → Shared → Prop}
    (C : Cx w s₀ L l g pr s) (hg : g a = some (lstO vs n)) (h : ∀ it o s', ltPos a 0 o → Cx w s₀ L l g ((it, o) :: pr) s' → Q (.ref it) s') : wpAny (model P w) A (pyIter (.ref a)) Q E s :=
  wpAny_pyIter_list (C.isList hg) (h _ _ _ ⟨rfl, rfl⟩ (C.pushP rfl rfl s.toks))
/-! tuples -/
noncomputable def tpPos (a : Addr) (i : Nat) (o : Obj) : Prop := o.cls = .type "tuple_iterator" ∧ o.data = .fields #[.ref a, .int i 0]
theorem iters_tup {w : World} {A : Around} {a it : Addr} {vs : List Value} (hh : A.handled = none) :
    Iters w A vs.length (fun i v _ => vs[i]? = some v) it (tpPos a) (fun g => g a = some (tupO vs)) := by
  refine ⟨?_, ?_⟩
  · intro i o s₀ L l g pr s Q E hi hp hg C h
    have hit : IsTupIter s.heap it a i := ⟨o, (C.prot _ (.head _)).1, hp.1, hp.2⟩
    refine next_tuple_item hit (C.isTup hg) (x := vs[i]) (by simp [hi]) fun h' hit' hs => ?_
    obtain ⟨o', ho', hc', hd'⟩ := hit'
    have z := C.turnP (fun b x hb e => (hs.2 b hb).trans e) ho' (hid_cls hc' (by decide)) s.toks
    exact h _ o' _ _ z.1 (by simp [hi]) ⟨hc', hd'⟩ z.2
  · intro o s₀ L l g pr s Q E hp hg C h
    have hit : IsTupIter s.heap it a vs.length := ⟨o, (C.prot _ (.head _)).1, hp.1, hp.2⟩
    refine next_tuple_end hh hit (C.isTup hg) (by simp) fun h' he => ?_
    have z := C.dropP (fun b x hb e => he b x hb e) s.toks
    exact h _ _ z.1 z.2
theorem piter_tup {w : World} {A : Around} {E : Value → Shared → Prop} {s s₀ : Shared} {L : Addr} {l : List (Str × Value)} {g : Vis} {pr : List (Addr × Obj)} {a : Addr} {vs : List Value} {Q : Value → Shared → Prop}
    (C : Cx w s₀ L l g pr s) (hg : g a = some (tupO vs)) (h : ∀ it o s', tpPos a 0 o → Cx w s₀ L l g ((it, o) :: pr) s' → Q (.ref it) s') : wpAny (model P w) A (pyIter (.ref a)) Q E s :=
  iter_tuple (C.isTup hg) (h _ _ _ ⟨rfl, rfl⟩ (C.pushP rfl rfl s.toks))
end Mine
end PartLp

section PartNx
open PySem PySem.StrLaws PySem.Builtin PySem.Builtin.Str
set_option Elab.async false
set_option linter.unusedVariables false
set_option linter.unusedSimpArgs false
namespace Mine
/-- cut at each slash -/
noncomputable def spl (c : Nat) : List Nat → List (List Nat)
  | [] => [[]]
  | x :: r => if x = c then [] :: spl c r else match spl c r with
    | p :: ps => (x :: p) :: ps
    | [] => [[x]]
noncomputable def inter (c : Nat) : List (List Nat) → List Nat
  | [] => []
  | [a] => a
  | a :: b :: r => a ++ c :: inter c (b :: r)
theorem spl_ne (c : Nat) : ∀ l, spl c l ≠ []
  | [] => by simp [spl]
  | x :: r => by
    unfold spl
    split
    · simp
    · split <;> simp
theorem inter_cons (c : Nat) (a : List Nat) : ∀ {r : List (List Nat)}, r ≠ [] → inter c (a :: r) = a ++ c :: inter c r
  | b :: r, _ => rfl
theorem spl_free (c : Nat) : ∀ {a : List Nat}, c ∉ a → spl c a = [a]
  | [], _ => rfl
  | x :: r, h => by
    have h1 : x ≠ c := fun e => h (e ▸ List.mem_cons_self ..)
    have h2 : c ∉ r := fun m => h (List.mem_cons_of_mem _ m)
    unfold spl
    rw [if_neg h1, spl_free c h2]
theorem spl_app (c : Nat) : ∀ {a r : List Nat}, c ∉ a → spl c (a ++ c :: r) = a :: spl c r
  | [], r, _ => by
    show spl c (c :: r) = _
    rw [spl, if_pos rfl]
  | x :: a, r, h => by
    have h1 : x ≠ c := fun e => h (e ▸ List.mem_cons_self ..)
    have h2 : c ∉ a := fun m => h (List.mem_cons_of_mem _ m)
    show spl c (x :: (a ++ c :: r)) = _
    rw [spl, if_neg h1, spl_app c h2]
theorem spl_inter (c : Nat) : ∀ {ps : List (List Nat)}, ps ≠ [] → (∀ p ∈ ps, c ∉ p) → spl c (inter c ps) = ps
  | [a], _, h => spl_free c (h a (.head _))
  | a :: b :: r, _, h => by
    rw [inter_cons c a (by simp), spl_app c (h a (.head _)), spl_inter c (by simp) fun p hp => h p (.tail _ hp)]
theorem inter_le (c B : Nat) : ∀ {ps : List (List Nat)}, (∀ p ∈ ps, p.length ≤ B) → (inter c ps).length ≤ ps.length * (B + 1)
  | [], _ => by simp [inter]
  | [a], h => by
    have := h a (.head _)
    simp only [inter, List.length_cons, List.length_nil]; lia
  | a :: b :: r, h => by
    have h1 := h a (.head _)
    have h2 := inter_le c B (ps := b :: r) fun p hp => h p (.tail _ hp)
    rw [inter_cons c a (by simp)]
    simp only [List.length_append, List.length_cons] at h2 ⊢
    have : (r.length + 1 + 1) * (B + 1) = (r.length + 1) * (B + 1) + (B + 1) := Nat.succ_mul _ _
    lia
theorem strjoin_T (c : Nat) : ∀ (ps : List (List Nat)), Str.join (T [c]) (ps.map T) = T (inter c ps)
  | [] => rfl
  | [a] => rfl
  | a :: b :: r => by
    show T a ++ T [c] ++ Str.join (T [c]) ((b :: r).map T) = _
    rw [strjoin_T c (b :: r), T_app, T_app]
    show _ = T (a ++ c :: inter c (b :: r))
    simp
theorem glued_T (c : Nat) (ps : List (List Nat)) : Txt.join (T [c]) (ps.map T) = T (inter c ps) := by
  unfold Txt.join
  rw [glued_eq_join, strjoin_T]
theorem str_T (x : Str) : ∃ l, x = T l := ⟨x.cps.toList, str_ext (by simp)⟩
theorem split_T (c : Nat) (l : List Nat) : Txt.split (T l) (T [c]) = (spl c l).map T := by
  have h1 := join_split (T l) (T [c])
  have h2 := split_free (T l) c
  obtain ⟨ps, hps⟩ : ∃ ps : List (List Nat), Txt.split (T l) (T [c]) = ps.map T := by
    refine ⟨(Txt.split (T l) (T [c])).map fun x => x.cps.toList, ?_⟩
    rw [List.map_map]
    conv => lhs; rw [← List.map_id (Txt.split (T l) (T [c]))]
    exact List.map_congr_left fun x _ => str_ext (by simp)
  have e0 : (⟨#[c]⟩ : Str) = T [c] := rfl
  rw [e0] at h2
  rw [hps] at h1 h2 ⊢
  rw [strjoin_T] at h1
  have h3 := T_inj h1
  have h4 : ∀ p ∈ ps, c ∉ p := fun p hp => by
    have := h2 (T p) (List.mem_map_of_mem hp)
    simpa using this
  by_cases hn : ps = []
  · subst hn
    have : l = [] := h3.symm
    subst this
    exfalso
    -- a cut text is never no text
    have : (Txt.split (T []) (T [c])) = [T []] := by
      unfold Txt.split
      rw [if_pos (by simp [T_len])]
    rw [this] at hps; cases hps
  · rw [← h3, spl_inter c hn h4]
end Mine
end PartNx

section PartR2
open PySem PySem.W PyProof.Rows PySem.Builtin PySem.Builtin.Str
set_option Elab.async false
set_option maxRecDepth 100000
set_option maxHeartbeats 400000
set_option linter.unusedVariables false
namespace Mine
section
variable {w : World} {A : Around} {E : Value → Shared → Prop} {s s₀ : Shared} {L : Addr} {l : List (Str × Value)} {g : Vis} {pr : List (Addr × Obj)} {env : Env}
theorem Cx.isL {a : Addr} {vs : List Value} {n : Nat} (C : Cx w s₀ L l g pr s) (e : g a = some (lstO vs n)) : IsL s.heap a vs.toArray n := C.at e
theorem lst_upd (C : Cx w s₀ L l g pr s) {a : Addr} {vs vs' : List Value} {n : Nat} (ha : g a = some (lstO vs n)) (h0 : s₀.heap.get? a = none) {f : Array Value → Array Value} (hf : f vs.toArray = vs'.toArray) (hne : vs'.length ≠ vs.length) :
    Cx w s₀ L l (put g a (lstO vs' (n + 1))) pr { s with heap := s.heap.update a (Obj.mapSeq f) } := by
  have z := (C.isL ha).update f
  rw [hf, if_neg (by simp [hne])] at z
  exact C.upd ha h0 (Heap.SameBut.update ..) z rfl s.toks
/-- what the rule of append is told -/
inductive ApL (w : World) (a : Addr) (v : Value) (Q : Value → Shared → Prop) (s₁ : Shared) : Prop
  | intro {s₀ : Shared} {L : Addr} {l : List (Str × Value)} {g : Vis} {pr : List (Addr × Obj)} {vs : List Value} {n : Nat} (C : Cx w s₀ L l g pr s₁) (hg : g a = some (lstO vs n)) (hl : vs.length ≤ 100000) (h0 : s₀.heap.get? a = none)
    (h : ∀ s', Cx w s₀ L l (put g a (lstO (vs ++ [v]) (n + 1))) pr s' → Q .none s') : ApL w a v Q s₁
theorem m_append {a : Addr} {pos : Pos} {x : Sem Value} {Q : Value → Shared → Prop} {vs : List Value} {n : Nat} (C : Cx w s₀ L l g pr s) (ha : g a = some (lstO vs n))
    (h : wpAny (model P w) A x (fun v s₁ => ApL w a v Q s₁) E s) :
    MethodOnS P w A E "append" (.ref a) pos [(false, x)] Q s := by
  refine ⟨"list", "list.append", PySem.F.plainAttrs_list, PySem.F.slot_list_append, PySem.F.type_list_append, ⟨_, C.at ha, rfl⟩, fun b e => by cases e; exact ⟨_, C.at ha, rfl⟩, ?_⟩
  refine PySem.P.append_list (wpAny_mono h (fun v s₁ q => ?_) fun _ _ q => q)
  obtain ⟨C, ha, hl, h0, hQ⟩ := q
  refine ⟨_, _, by simp [sizeLine_eq]; lia, C.isL ha, hQ _ (lst_upd C ha h0 (by simp) (by simp))⟩
theorem m_pop {a : Addr} {pos : Pos} {Q : Value → Shared → Prop} {vs : List Value} {v : Value} {n : Nat} (C : Cx w s₀ L l g pr s) (ha : g a = some (lstO (vs ++ [v]) n)) (hl : vs.length ≤ 100000) (h0 : s₀.heap.get? a = none)
    (h : ∀ s', Cx w s₀ L l (put g a (lstO vs (n + 1))) pr s' → Q v s') :
    MethodOnS P w A E "pop" (.ref a) pos [] Q s := by
  refine ⟨"list", "list.pop", PySem.F.plainAttrs_list, PySem.F.slot_list_pop, PySem.F.type_list_pop, ⟨_, C.at ha, rfl⟩, fun b e => by cases e; exact ⟨_, C.at ha, rfl⟩, ?_⟩
  refine PySem.P.pop_list (C.isL ha) (y := v) (by simp) ?_ (by simp [sizeLine_eq]; lia)
  refine h _ (lst_upd C ha h0 ?_ (by simp))
  have : (vs ++ [v]).toArray.size - 1 = vs.length := by simp
  rw [this]
  have := kl_erase vs [] v
  simpa using this
theorem tr_list {a : Addr} {vs : List Value} {n : Nat} {Q : Bool → Shared → Prop} (C : Cx w s₀ L l g pr s) (ha : g a = some (lstO vs n)) (hl : vs.length ≤ 100000) (h : Q (!vs.isEmpty) { s with toks := s.toks + 1 + 1 }) :
    wpAny (model P w) A (truthy (.ref a)) Q E s := by
  refine wpAny_truthy_list (C.isList ha) (by simp; lia) ?_
  simpa using h
theorem item_last {a : Addr} {vs : List Value} {v : Value} {n : Nat} {u : Tok} {Q : Value → Shared → Prop} (C : Cx w s₀ L l g pr s) (ha : g a = some (lstO (vs ++ [v]) n)) (h : Q v s) : ItemOn (model P w) A E (.ref a) (.int (-1) u) Q s :=
  ⟨"list", _, slot_list_getitem.lookup, ⟨_, C.at ha, rfl⟩, wpAny_getItem_list_neg (k := -1) (C.isList ha) (by decide) (by simp; lia) (by decide) (by simp; rw [show ((-1 : Int) + ((vs.length : Int) + 1)).toNat = vs.length by lia]; simp) h⟩

theorem unp3 {x1 x2 x3 : Expr} {v1 v2 v3 : Value} {k} {pos : Pos} {t : Addr} {Q : Unit → Shared → Prop} (C : Cx w s₀ L l g pr s) (e : g t = some (tupO [v1, v2, v3]))
    (hh : A.handled = none) (he : assignEach [x1, x2, x3] env = [(false, assign x1 env), (false, assign x2 env), (false, assign x3 env)])
    (h : ∀ g' s', Ext g g' → Cx w s₀ L l g' pr s' → wpAny (model P w) A (assign x1 env v1) (fun _ s₁ => wpAny (model P w) A (assign x2 env v2) (fun _ s₂ => wpAny (model P w) A (assign x3 env v3) Q E s₂) E s₁) E s') :
    wpAny (model P w) A (assign (.Tuple [x1, x2, x3] k pos) env (.ref t)) Q E s := by
  refine unp C e hh (by rw [he]; rfl) (by rw [he]; rfl) fun g' s' e' C' => ?_
  rw [he]
  exact assignInOrder_cons (wpAny_mono (h g' s' e' C') (fun _ s₁ q => assignInOrder_cons (wpAny_mono q (fun _ s₂ q => assignInOrder_cons (wpAny_mono q (fun _ s₃ q => assignInOrder_nil q) fun _ _ q => q)) fun _ _ q => q)) fun _ _ q => q)
theorem unp2 {x1 x2 : Expr} {v1 v2 : Value} {k} {pos : Pos} {t : Addr} {Q : Unit → Shared → Prop} (C : Cx w s₀ L l g pr s) (e : g t = some (tupO [v1, v2]))
    (hh : A.handled = none) (he : assignEach [x1, x2] env = [(false, assign x1 env), (false, assign x2 env)])
    (h : ∀ g' s', Ext g g' → Cx w s₀ L l g' pr s' → wpAny (model P w) A (assign x1 env v1) (fun _ s₁ => wpAny (model P w) A (assign x2 env v2) Q E s₁) E s') :
    wpAny (model P w) A (assign (.Tuple [x1, x2] k pos) env (.ref t)) Q E s := by
  refine unp C e hh (by rw [he]; rfl) (by rw [he]; rfl) fun g' s' e' C' => ?_
  rw [he]
  exact assignInOrder_cons (wpAny_mono (h g' s' e' C') (fun _ s₁ q => assignInOrder_cons (wpAny_mono q (fun _ s₂ q => assignInOrder_nil q) fun _ _ q => q)) fun _ _ q => q)
noncomputable def IsStrs (vs : List Value) (xs : List (List Nat)) : Prop := ∃ l : List (Str × Tok), vs = strValues l ∧ l.map (·.1) = xs.map T
theorem IsStrs.nil : IsStrs [] [] := ⟨[], rfl, rfl⟩
theorem IsStrs.snoc {vs : List Value} {xs : List (List Nat)} {x : List Nat} {t : Tok} (h : IsStrs vs xs) : IsStrs (vs ++ [.str (T x) t]) (xs ++ [x]) := by
  obtain ⟨l, rfl, h⟩ := h
  exact ⟨l ++ [(T x, t)], by simp [strValues], by simp [h]⟩
theorem IsStrs.length {vs : List Value} {xs : List (List Nat)} (h : IsStrs vs xs) : vs.length = xs.length := by
  obtain ⟨l, rfl, h⟩ := h
  have := congrArg List.length h
  simpa [strValues] using this
theorem IsStrs.get {vs : List Value} {xs : List (List Nat)} (h : IsStrs vs xs) {i : Nat} {x : List Nat} (hx : xs[i]? = some x) : ∃ t, vs[i]? = some (.str (T x) t) := by
  obtain ⟨l, rfl, h⟩ := h
  have h1 : (l.map (·.1))[i]? = some (T x) := by rw [h]; simp [hx]
  simp only [List.getElem?_map, Option.map_eq_some_iff] at h1
  obtain ⟨p, hp, e⟩ := h1
  exact ⟨p.2, by simp [strValues, hp, ← e]⟩
theorem IsStrs.cons_inv {vs : List Value} {x : List Nat} {xs : List (List Nat)} (h : IsStrs vs (x :: xs)) : ∃ t vs', vs = .str (T x) t :: vs' ∧ IsStrs vs' xs := by
  obtain ⟨l, rfl, h⟩ := h
  cases l with
  | nil => cases h
  | cons p r =>
    simp only [List.map_cons, List.cons.injEq] at h
    exact ⟨p.2, strValues r, by simp [strValues, h.1], r, rfl, h.2⟩
theorem IsStrs.snoc_inv {vs : List Value} {x : List Nat} {xs : List (List Nat)} (h : IsStrs vs (xs ++ [x])) : ∃ t vs', vs = vs' ++ [.str (T x) t] ∧ IsStrs vs' xs := by
  obtain ⟨l, rfl, h⟩ := h
  rw [List.map_append] at h
  obtain ⟨a, b, e, h1, h2⟩ := List.map_eq_append_iff.mp h
  subst e
  cases b with
  | nil => cases h2
  | cons p r =>
    cases r with
    | cons q z => simp at h2
    | nil =>
      simp only [List.map_cons, List.map_nil, List.cons.injEq, and_true] at h2
      exact ⟨p.2, strValues a, by simp [strValues, h2], a, rfl, h1⟩
/-- what the rule of split is told -/
inductive SpL (w : World) (sep : Str) (rows : List (List Nat)) (v : Value) (Q : Value → Shared → Prop) (s₁ : Shared) : Prop
  | intro {s₀ : Shared} {L : Addr} {l : List (Str × Value)} {g : Vis} {pr : List (Addr × Obj)} (u : Tok) (hv : v = .str sep u) (C : Cx w s₀ L l g pr s₁)
    (h : ∀ D vs s', IsStrs vs rows → g D = none → s₀.heap.get? D = none → Cx w s₀ L l (put g D (lstO vs 0)) pr s' → Q (.ref D) s') : SpL w sep rows v Q s₁
/-- what the rule of join is told -/
inductive JnL (w : World) (c : Nat) (v : Value) (Q : Value → Shared → Prop) (s₁ : Shared) : Prop
  | intro {s₀ : Shared} {L : Addr} {l : List (Str × Value)} {g : Vis} {pr : List (Addr × Obj)} (D : Addr) (vs : List Value) (n : Nat) (xs : List (List Nat)) (hv : v = .ref D) (hs : IsStrs vs xs) (h1 : ∀ x ∈ xs, x.length ≤ 1000) (h2 : xs.length ≤ 1000) (C : Cx w s₀ L l g pr s₁) (hg : g D = some (lstO vs n))
    (h : ∀ t' s', Cx w s₀ L l g pr s' → Q (.str (T (inter c xs)) t') s') : JnL w c v Q s₁
theorem m_split {c : Nat} {xl : List Nat} {t : Tok} {pos : Pos} {a : Sem Value} {Q : Value → Shared → Prop} (hx : xl.length ≤ 100000)
    (h : wpAny (model P w) A a (fun v s₁ => SpL w (T [c]) (spl c xl) v Q s₁) E s) :
    MethodOnS P w A E "split" (.str (T xl) t) pos [(false, a)] Q s := by
  refine ⟨"str", _, PySem.F.plainAttrs_str, PySem.F.slot_str_split, PySem.F.type_str_split, typeIs_str _ _ _, (fun _ e => nomatch e),
    method1_meets PySem.F.slot_str_split PySem.F.entry_str_split (wpAny_mono h (fun v s₁ h₁ => ?_) fun _ _ e => e)⟩
  obtain ⟨u, rfl, C, hq⟩ := h₁
  refine ⟨typeIs_str _ _ _, PySem.F.args_str_split_2 _ _, ?_⟩
  have hlen : (T xl).length ≤ sizeLine := by rw [T_len]; simp [sizeLine_eq]; lia
  have hy : ((T [c]).length == 0) = false := by rw [T_len]; rfl
  have hsp := split_T c xl
  have fin : ∀ (ll : List (Str × Tok)) (k : Nat), ll.map (·.1) = Txt.split (T xl) (T [c]) →
      Q (.ref s₁.heap.objs.size) { s₁ with toks := k, heap := s₁.heap.push { cls := .type "list", data := .seq (strValues ll).toArray } } := fun ll k e => by
    have C' := C.tok k
    exact mk_obj (o := lstO (strValues ll) 0) C' rfl rfl fun D s' hD h0 C2 => hq D _ s' ⟨ll, rfl, e.trans hsp⟩ hD h0 C2
  cases h1 : (decide ((T xl).length < (T [c]).length) || decide (strKind (T xl) < strKind (T [c])))
  · cases hf : (occurrences (T xl) (T [c]) 0 (T xl).length ((T xl).length + 1)).isEmpty
    · have hn : (partsBetween (T xl) (occurrences (T xl) (T [c]) 0 (T xl).length ((T xl).length + 1)) (T [c]).length).length ≤ sizeLine := by
        rw [length_partsBetween]
        have := PySem.StrLaws.occ_length_le (T xl) (T [c]) 0 (T xl).length ((T xl).length + 1)
        rw [T_len] at this ⊢
        rw [sizeLine_eq]; lia
      refine ⟨_, meets_str_split_sep (T xl) (T [c]) t u h1 hy hf hlen hn, ?_⟩
      show wants Q E _ { s₁ with toks := _, heap := s₁.heap.push { cls := .type "list", data := .seq (strsFrom s₁.toks (partsBetween (T xl) (occurrences (T xl) (T [c]) 0 (T xl).length ((T xl).length + 1)) (T [c]).length)).toArray } }
      rw [strsFrom_eq]
      exact fin (numbered s₁.toks _) _ ((numbered_texts _ _).trans ((if_neg (ne_true_of_eq_false h1)).trans (if_neg (ne_true_of_eq_false hf))).symm)
    · exact ⟨_, meets_str_split_not_found (T xl) (T [c]) t u h1 hy hf, fin [(T xl, t)] _ ((if_neg (ne_true_of_eq_false h1)).trans (if_pos hf)).symm⟩
  · exact ⟨_, meets_str_split_cannot_occur (T xl) (T [c]) t u h1, fin [(T xl, t)] _ (if_pos h1).symm⟩
theorem m_join {c : Nat} {t : Tok} {pos : Pos} {a : Sem Value} {Q : Value → Shared → Prop}
    (h : wpAny (model P w) A a (fun v s₁ => JnL w c v Q s₁) E s) : MethodOnS P w A E "join" (.str (T [c]) t) pos [(false, a)] Q s := by
  refine SB.join (wpAny_mono h (fun v s₁ q => ?_) fun _ _ q => q)
  obtain ⟨D, vs, n, xs, rfl, ⟨ll, rfl, e⟩, hB, hn, C, hg, hQ⟩ := q
  refine ⟨D, ll, rfl, C.isList hg, xs.map T, e, ?_, fun t' k => ?_⟩
  · unfold JoinOk
    have := PySem.StrLaws.joinFits (sep := T [c]) (texts := xs.map T) (B := 1000) (fun y hy => by
      obtain ⟨x, hx, rfl⟩ := List.mem_map.mp hy
      rw [T_len]; exact hB x hx) (by rw [List.length_map, T_len]; simp; lia)
    rw [this]; rfl
  · rw [glued_T]; exact hQ t' _ (C.tok k)
end
end Mine
end PartR2

section PartRe
open PySem PySem.Sre
set_option Elab.async false
set_option linter.unusedVariables false
set_option linter.unusedSimpArgs false
namespace Mine
noncomputable def it : Nat → M → M
  | 0, m => m
  | n + 1, m => it n m.step
theorem it_add (a b : Nat) (m : M) : it (a + b) m = it b (it a m) := by
  induction a generalizing m with
  | zero => simp [it]
  | succ a ih => rw [Nat.succ_add]; exact ih _
theorem it_done {m : M} (h : m.outcome.isSome = true) : ∀ n, it n m = m
  | 0 => rfl
  | n + 1 => by
    have : m.step = m := by unfold M.step; rw [if_pos h]
    show it n m.step = m
    rw [this]; exact it_done h n
theorem runFor_it : ∀ n m, M.runFor n m = it n m
  | 0, m => rfl
  | n + 1, m => by
    unfold M.runFor
    split
    · rename_i h; exact (it_done h (n + 1)).symm
    · exact runFor_it n m.step
noncomputable def code1 : Array Nat := #[14, 4, 0, 1, 1, 6, 1, 16, 46, 1]
/-- an attempt of the first pattern at place p -/
noncomputable def B1 (text : Array Nat) (p : Nat) (must first : Bool) (seen : Seen) : M :=
  { code := code1, text, lim := text.size, start := p, lastStart := text.size, mustAdvance := must, pc := 5, pos := p, handed := p, outermost := first, marks := #[], lastmark := -1, lastindex := -1,
    frames := [{ wait := .nextStart, pc := 5, pos := p, outermost := first }], weight := 1, seen }
theorem fs1 (text : Array Nat) (p : Nat) (must : Bool) (h : p < text.size) : ∃ seen, forSearch code1 text 0 p text.size must = B1 text p must true seen := by
  have e : ∃ m0 : M, forSearch code1 text 0 p text.size must = if p > text.size || text.size - p < 1 then m0 else B1 text p must true (({} : Seen).add 14) := ⟨_, rfl⟩
  obtain ⟨m0, e⟩ := e
  exact ⟨_, e.trans (if_neg (by simp; lia))⟩
theorem fs1_end (text : Array Nat) (p : Nat) (must : Bool) (h : text.size ≤ p) : (it 1 (forSearch code1 text 0 p text.size must)).outcome = some .failed := by
  have e : ∃ m1 : M, forSearch code1 text 0 p text.size must = if p > text.size || text.size - p < 1 then
      ({ code := code1, text, lim := text.size, start := p, pc := 5, pos := p, handed := p, marks := #[], mustAdvance := must, seen := ({} : Seen).add 14, answer := some false } : M) else m1 := ⟨_, rfl⟩
  obtain ⟨m1, e⟩ := e
  rw [e, if_pos (by simp; lia)]
  rfl
noncomputable def hit (text : Array Nat) (p : Nat) : Bool := (p == 0 || text.getD (p - 1) 0 == 10) && text.getD p 0 == 46
theorem b1_s1 (text : Array Nat) (p : Nat) (must first : Bool) (seen : Seen) : ∃ seen', (B1 text p must first seen).step = if (p == 0 || text.getD (p - 1) 0 == 10) = true then { B1 text p must first seen' with pc := 7 } else { B1 text p must first seen' with answer := some false } := ⟨_, rfl⟩
theorem b1_s2 (text : Array Nat) (p : Nat) (must first : Bool) (seen : Seen) (hp : p < text.size) : ∃ seen', ({ B1 text p must first seen with pc := 7 } : M).step = if (text.getD p 0 == 46) = true then { B1 text p must first seen' with pc := 9, pos := p + 1 } else { B1 text p must first seen' with pc := 7, answer := some false } := by
  refine ⟨seen.add 16, ?_⟩
  have e : ∀ b, (text.getD p 0 == 46) = b → ({ B1 text p must first seen with pc := 7 } : M).step = if b = true then { B1 text p must first (seen.add 16) with pc := 9, pos := p + 1 } else { B1 text p must first (seen.add 16) with pc := 7, answer := some false } := by
    intro b hb
    have e1 : ({ B1 text p must first seen with pc := 7 } : M).step = (if p ≥ text.size then ({ B1 text p must first (seen.add 16) with pc := 7 } : M).say false else
      match (Except.ok (text.getD p 0 == 46, seen.add 16) : Except String (Bool × Seen)) with
      | .error why => ({ B1 text p must first (seen.add 16) with pc := 7 } : M).stick why
      | .ok (false, seen) => ({ B1 text p must first seen with pc := 7 } : M).say false
      | .ok (true, seen) => { B1 text p must first seen with pc := 9, pos := p + 1 }) := rfl
    rw [e1, if_neg (by lia), hb]
    cases b <;> rfl
  exact e _ rfl
theorem b1_s2e (text : Array Nat) (p : Nat) (must first : Bool) (seen : Seen) (hp : text.size ≤ p) : ∃ seen', ({ B1 text p must first seen with pc := 7 } : M).step = { B1 text p must first seen' with pc := 7, answer := some false } := by
  refine ⟨seen.add 16, ?_⟩
  have e1 : ∃ m, ({ B1 text p must first seen with pc := 7 } : M).step = (if p ≥ text.size then ({ B1 text p must first (seen.add 16) with pc := 7 } : M).say false else m) := ⟨_, rfl⟩
  obtain ⟨m, e1⟩ := e1
  rw [e1, if_pos hp]; rfl
theorem b1_hit (text : Array Nat) (p : Nat) (must first : Bool) (seen : Seen) (hp : p < text.size) (h : hit text p = true) : ∃ m, it 5 (B1 text p must first seen) = m ∧ m.outcome = some .matched ∧ m.start = p ∧ m.handed = p + 1 := by
  unfold hit at h
  rw [Bool.and_eq_true] at h
  obtain ⟨se1, e1⟩ := b1_s1 text p must first seen
  rw [if_pos h.1] at e1
  obtain ⟨se2, e2⟩ := b1_s2 text p must first se1 hp
  rw [if_pos h.2] at e2
  refine ⟨_, rfl, ?_⟩
  show (it 4 (B1 text p must first seen).step).outcome = _ ∧ (it 4 (B1 text p must first seen).step).start = _ ∧ (it 4 (B1 text p must first seen).step).handed = _
  rw [e1]
  show (it 3 ({ B1 text p must first se1 with pc := 7 } : M).step).outcome = _ ∧ (it 3 ({ B1 text p must first se1 with pc := 7 } : M).step).start = _ ∧ (it 3 ({ B1 text p must first se1 with pc := 7 } : M).step).handed = _
  rw [e2]
  have e3 : ∃ se3, ({ B1 text p must first se2 with pc := 9, pos := p + 1 } : M).step = if (first && ((false && (p + 1 != text.size)) || (must && (p + 1 == p)))) = true then ({ B1 text p must first se3 with pc := 9, pos := p + 1, answer := some false } : M) else { B1 text p must first se3 with pc := 9, pos := p + 1, handed := p + 1, answer := some true } := ⟨_, rfl⟩
  obtain ⟨se3, e3⟩ := e3
  rw [if_neg (by simp)] at e3
  show (it 2 ({ B1 text p must first se2 with pc := 9, pos := p + 1 } : M).step).outcome = _ ∧ (it 2 ({ B1 text p must first se2 with pc := 9, pos := p + 1 } : M).step).start = _ ∧ (it 2 ({ B1 text p must first se2 with pc := 9, pos := p + 1 } : M).step).handed = _
  rw [e3]
  exact ⟨rfl, rfl, rfl⟩
/-- a miss: the next attempt, or the end -/
theorem b1_miss (text : Array Nat) (p : Nat) (must first : Bool) (seen : Seen) (hp : p ≤ text.size) (h : p < text.size → hit text p = false) :
    ∃ k m, k ≤ 3 ∧ it k (B1 text p must first seen) = m ∧ ((p < text.size ∧ ∃ se, m = B1 text (p + 1) false false se) ∨ (p = text.size ∧ ∃ m', m'.outcome = some Outcome.failed ∧ m.step = m')) := by
  obtain ⟨se1, e1⟩ := b1_s1 text p must first seen
  have resume : ∀ se pc, ∃ se', ({ B1 text p must first se with pc := pc, answer := some false } : M).step = if p < text.size then B1 text (p + 1) false false se' else { B1 text p must first se with frames := [], weight := 0, pc := 5, pos := p, outermost := first, answer := some false } := fun se pc => ⟨_, rfl⟩
  have final : ∀ se, ∃ m', m'.outcome = some Outcome.failed ∧ ({ B1 text p must first se with frames := [], weight := 0, pc := 5, pos := p, outermost := first, answer := some false } : M).step = m' := fun se => ⟨_, rfl, rfl⟩
  by_cases h1 : (p == 0 || text.getD (p - 1) 0 == 10) = true
  · rw [if_pos h1] at e1
    have key : ∃ se2, ({ B1 text p must first se1 with pc := 7 } : M).step = { B1 text p must first se2 with pc := 7, answer := some false } := by
      by_cases hlt : p < text.size
      · obtain ⟨se2, e2⟩ := b1_s2 text p must first se1 hlt
        have := h hlt
        unfold hit at this
        rw [h1, Bool.true_and] at this
        rw [if_neg (by rw [this]; simp)] at e2
        exact ⟨se2, e2⟩
      · exact b1_s2e text p must first se1 (by lia)
    obtain ⟨se2, e2⟩ := key
    obtain ⟨se3, e3⟩ := resume se2 7
    refine ⟨3, _, Nat.le_refl _, rfl, ?_⟩
    have : it 3 (B1 text p must first seen) = if p < text.size then B1 text (p + 1) false false se3 else { B1 text p must first se2 with frames := [], weight := 0, pc := 5, pos := p, outermost := first, answer := some false } := by
      show (B1 text p must first seen).step.step.step = _
      rw [e1, e2, e3]
    rw [this]
    by_cases hlt : p < text.size
    · rw [if_pos hlt]; exact .inl ⟨hlt, _, rfl⟩
    · rw [if_neg hlt]; exact .inr ⟨by lia, final se2⟩
  · rw [if_neg h1] at e1
    obtain ⟨se3, e3⟩ := resume se1 5
    refine ⟨2, _, by lia, rfl, ?_⟩
    have : it 2 (B1 text p must first seen) = if p < text.size then B1 text (p + 1) false false se3 else { B1 text p must first se1 with frames := [], weight := 0, pc := 5, pos := p, outermost := first, answer := some false } := by
      show (B1 text p must first seen).step.step = _
      rw [e1]
      exact e3
    rw [this]
    by_cases hlt : p < text.size
    · rw [if_pos hlt]; exact .inl ⟨hlt, _, rfl⟩
    · rw [if_neg hlt]; exact .inr ⟨by lia, final se1⟩

noncomputable def Find (code text : Array Nat) (hits : Nat → Bool) (p : Nat) (m : M) : Prop :=
  (∃ q, p ≤ q ∧ q < text.size ∧ hits q = true ∧ (∀ r, p ≤ r → r < q → hits r = false) ∧ m.outcome = some .matched ∧ m.start = q ∧ m.handed = q + 1) ∨
  ((∀ r, p ≤ r → r < text.size → hits r = false) ∧ m.outcome = some .failed)
theorem b1_search (text : Array Nat) : ∀ n p must first seen, text.size - p = n → p ≤ text.size → ∃ j, j ≤ 3 * n + 5 ∧ Find code1 text (hit text) p (it j (B1 text p must first seen)) := by
  intro n
  induction n using Nat.strongRecOn with
  | ind n ih =>
    intro p must first seen hn hp
    by_cases h : p < text.size ∧ hit text p = true
    · obtain ⟨m, e, h1, h2, h3⟩ := b1_hit text p must first seen h.1 h.2
      refine ⟨5, by lia, .inl ⟨p, Nat.le_refl _, h.1, h.2, fun r a b => by lia, ?_⟩⟩
      rw [e]; exact ⟨h1, h2, h3⟩
    · have hm : p < text.size → hit text p = false := fun q => by
        cases z : hit text p with
        | false => rfl
        | true => exact absurd ⟨q, z⟩ h
      obtain ⟨k, m, hk, e, hc⟩ := b1_miss text p must first seen hp hm
      rcases hc with ⟨hlt, se, rfl⟩ | ⟨hpe, m', ho, hs⟩
      · obtain ⟨j, hj, hf⟩ := ih (n - 1) (by lia) (p + 1) false false se (by lia) hlt
        refine ⟨k + j, by lia, ?_⟩
        rw [it_add, e]
        rcases hf with ⟨q, a, b, c, d, f⟩ | ⟨a, b⟩
        · refine .inl ⟨q, by lia, b, c, fun r hr hq => ?_, f⟩
          by_cases hrp : r = p
          · rw [hrp]; exact hm hlt
          · exact d r (by lia) hq
        · refine .inr ⟨fun r hr hq => ?_, b⟩
          by_cases hrp : r = p
          · rw [hrp]; exact hm hlt
          · exact a r (by lia) hq
      · refine ⟨k + 1, by lia, .inr ⟨fun r a b => by lia, ?_⟩⟩
        rw [it_add, e]
        show (it 0 m.step).outcome = _
        rw [hs]; exact ho
theorem find1 (text : Array Nat) (p : Nat) (must : Bool) (hp : p ≤ text.size) : ∃ j, j ≤ 3 * text.size + 9 ∧ Find code1 text (hit text) p (it j (forSearch code1 text 0 p text.size must)) := by
  by_cases h : p < text.size
  · obtain ⟨seen, e⟩ := fs1 text p must h
    obtain ⟨j, hj, hf⟩ := b1_search text _ p must true seen rfl hp
    exact ⟨j, by lia, by rw [e]; exact hf⟩
  · exact ⟨1, by lia, .inr ⟨fun r a b => by lia, fs1_end text p must (by lia)⟩⟩
/-! the second pattern -/
noncomputable def code2 : Array Nat := #[14, 9, 4, 1, 2, 16, 10, 16, 13, 0, 7, 7, 16, 13, 16, 10, 15, 18, 5, 16, 10, 15, 13, 11, 16, 13, 5, 5, 0, 16, 10, 1, 15, 2, 0, 1]
noncomputable def m0 (text : Array Nat) (p : Nat) (must : Bool) : M :=
  { code := code2, text, lim := text.size, start := p, lastStart := text.size, pc := 10, pos := p, handed := p, marks := #[], mustAdvance := must, seen := ({} : Seen).add 14 }
noncomputable def set2 (text : Array Nat) (must : Bool) (p s : Nat) (seen : Seen) : M := { m0 text p must with mustAdvance := false, seen }.attemptAt s true
theorem fs2 (text : Array Nat) (p : Nat) (must : Bool) (h : p < text.size) : forSearch code2 text 0 p text.size must =
    match M.admitted (m0 text p must) (text.size + 1 - p) p (({} : Seen).add 14) with
    | .ok (some s, seen) => set2 text must p s seen
    | .ok (none, seen) => { m0 text p must with seen }.say false
    | .error why => (m0 text p must).stick why := by
  have e : ∃ m1 : M, forSearch code2 text 0 p text.size must = if p > text.size || text.size - p < 1 then m1 else 
    match M.admitted (m0 text p must) (text.size + 1 - p) p (({} : Seen).add 14) with
    | .ok (some s, seen) => set2 text must p s seen
    | .ok (none, seen) => { m0 text p must with seen }.say false
    | .error why => (m0 text p must).stick why := ⟨_, rfl⟩
  obtain ⟨m1, e⟩ := e
  exact e.trans (if_neg (by simp; lia))
theorem fs2_end (text : Array Nat) (p : Nat) (must : Bool) (h : text.size ≤ p) : (it 1 (forSearch code2 text 0 p text.size must)).outcome = some .failed := by
  have e : ∃ m1 : M, forSearch code2 text 0 p text.size must = if p > text.size || text.size - p < 1 then
      ({ code := code2, text, lim := text.size, start := p, pc := 10, pos := p, handed := p, marks := #[], mustAdvance := must, seen := ({} : Seen).add 14, answer := some false } : M) else m1 := ⟨_, rfl⟩
  obtain ⟨m1, e⟩ := e
  rw [e, if_pos (by simp; lia)]
  rfl
theorem inset2 (c : Nat) (seen : Seen) : ∃ se1 se2 se3, inSet code2 c code2.size 5 true seen = if (c == 10) = true then .ok (true, se1) else if (c == 13) = true then .ok (true, se2) else .ok (false, se3) := ⟨_, _, _, rfl⟩
noncomputable def h10 (text : Array Nat) (p : Nat) : Bool := text.getD p 0 == 10
theorem adm2 (text : Array Nat) (p0 : Nat) (must : Bool) (h13 : ∀ q, text.getD q 0 ≠ 13) : ∀ n p seen, text.size - p < n →
    (∃ q se, M.admitted (m0 text p0 must) n p seen = .ok (some q, se) ∧ p ≤ q ∧ q < text.size ∧ h10 text q = true ∧ ∀ r, p ≤ r → r < q → h10 text r = false) ∨
    (∃ se, M.admitted (m0 text p0 must) n p seen = .ok (none, se) ∧ ∀ r, p ≤ r → r < text.size → h10 text r = false)
  | 0, p, seen, h => by lia
  | n + 1, p, seen, h => by
    have un : M.admitted (m0 text p0 must) (n + 1) p seen = if p ≥ text.size then .ok (none, seen) else
      match inSet code2 (text.getD p 0) code2.size 5 true seen with
      | .ok (true, seen) => .ok (some p, seen)
      | .ok (false, seen) => M.admitted (m0 text p0 must) n (p + 1) seen
      | .error why => .error why := rfl
    by_cases hp : p ≥ text.size
    · rw [un, if_pos hp]
      exact .inr ⟨_, rfl, fun r a b => by lia⟩
    · rw [un, if_neg hp]
      obtain ⟨se1, se2, se3, e⟩ := inset2 (text.getD p 0) seen
      rw [e]
      by_cases h1 : (text.getD p 0 == 10) = true
      · rw [if_pos h1]
        exact .inl ⟨p, se1, rfl, Nat.le_refl _, by lia, h1, fun r a b => by lia⟩
      · rw [if_neg h1, if_neg (by simpa using h13 p)]
        have hpf : h10 text p = false := by unfold h10; simpa using h1
        rcases adm2 text p0 must h13 n (p + 1) se3 (by lia) with ⟨q, se, e, a, b, c, d⟩ | ⟨se, e, a⟩
        · refine .inl ⟨q, se, e, by lia, b, c, fun r hr hq => ?_⟩
          by_cases hrp : r = p
          · rw [hrp]; exact hpf
          · exact d r (by lia) hq
        · refine .inr ⟨se, e, fun r hr hq => ?_⟩
          by_cases hrp : r = p
          · rw [hrp]; exact hpf
          · exact a r (by lia) hq

noncomputable def S2 (text : Array Nat) (s pc pos alt : Nat) (seen : Seen) : M :=
  { code := code2, text, lim := text.size, start := s, lastStart := text.size, mustAdvance := false, pc, pos, handed := s, outermost := true, marks := #[], lastmark := -1, lastindex := -1,
    frames := [{ wait := .nextBranch, pc := alt, pos := s, outermost := true, kept := { lastmark := -1, lastindex := -1, whole := false, marks := #[] } }, { wait := .nextStart, pc := 10, pos := s, outermost := true }], weight := 2, seen }
theorem s2_lit (text : Array Nat) (s pc alt : Nat) (seen : Seen) (hs : s < text.size) (c : Nat) (hpc : pc = 12 ∧ c = 13 ∨ pc = 19 ∧ c = 10) :
    (S2 text s pc s alt seen).step = if (text.getD s 0 == c) = true then S2 text s (pc + 2) (s + 1) alt (seen.add 16) else { S2 text s pc s alt (seen.add 16) with answer := some false } := by
  have e : ∀ b, (text.getD s 0 == c) = b → (S2 text s pc s alt seen).step = if b = true then S2 text s (pc + 2) (s + 1) alt (seen.add 16) else { S2 text s pc s alt (seen.add 16) with answer := some false } := by
    intro b hb
    have e1 : (S2 text s pc s alt seen).step = (if s ≥ text.size then ({ S2 text s pc s alt (seen.add 16) with answer := some false } : M) else
      match (Except.ok (text.getD s 0 == c, seen.add 16) : Except String (Bool × Seen)) with
      | .error why => (S2 text s pc s alt (seen.add 16)).stick why
      | .ok (false, seen) => ({ S2 text s pc s alt seen with answer := some false } : M)
      | .ok (true, seen) => S2 text s (pc + 2) (s + 1) alt seen) := by
      rcases hpc with ⟨rfl, rfl⟩ | ⟨rfl, rfl⟩ <;> rfl
    rw [e1, if_neg (by lia), hb]
    cases b <;> rfl
  exact e _ rfl
theorem run2 (text : Array Nat) (p s : Nat) (must : Bool) (seen : Seen) (hs : s < text.size) (h : h10 text s = true) : ∃ m, it 9 (set2 text must p s seen) = m ∧ m.outcome = some .matched ∧ m.start = s ∧ m.handed = s + 1 := by
  refine ⟨_, rfl, ?_⟩
  have e1 : ∃ se, (set2 text must p s seen).step = S2 text s 12 s 11 se := ⟨_, rfl⟩
  obtain ⟨se, e1⟩ := e1
  have e2 := s2_lit text s 12 11 se hs 13 (.inl ⟨rfl, rfl⟩)
  have h' : text.getD s 0 = 10 := by unfold h10 at h; simpa using h
  rw [if_neg (by rw [h']; decide)] at e2
  have e3 : ∃ se', ({ S2 text s 12 s 11 (se.add 16) with answer := some false } : M).step = S2 text s 19 s 18 se' := ⟨_, rfl⟩
  obtain ⟨se', e3⟩ := e3
  have e4 := s2_lit text s 19 18 se' hs 10 (.inr ⟨rfl, rfl⟩)
  rw [if_pos (by rw [h']; decide)] at e4
  have e : it 9 (set2 text must p s seen) = it 5 (S2 text s 21 (s + 1) 18 (se'.add 16)) := by
    show it 5 (set2 text must p s seen).step.step.step.step = _
    rw [e1, e2, e3, e4]
  rw [e]
  generalize se'.add 16 = s5
  have e5 : ∃ s6, (S2 text s 21 (s + 1) 18 s5).step = S2 text s 35 (s + 1) 18 s6 := ⟨_, rfl⟩
  obtain ⟨s6, e5⟩ := e5
  have e6 : ∃ s7, (S2 text s 35 (s + 1) 18 s6).step = { S2 text s 35 (s + 1) 18 s7 with handed := s + 1, answer := some true } := ⟨_, rfl⟩
  obtain ⟨s7, e6⟩ := e6
  have e7 : it 5 (S2 text s 21 (s + 1) 18 s5) = it 3 ({ S2 text s 35 (s + 1) 18 s7 with handed := s + 1, answer := some true } : M) := by
    show it 3 (S2 text s 21 (s + 1) 18 s5).step.step = _
    rw [e5, e6]
  rw [e7]
  have e8 : ({ S2 text s 35 (s + 1) 18 s7 with handed := s + 1, answer := some true } : M).step = { S2 text s 18 s 18 s7 with handed := s + 1, answer := some true, frames := [{ wait := .nextStart, pc := 10, pos := s, outermost := true }], weight := 1 } := rfl
  have e9 : ({ S2 text s 18 s 18 s7 with handed := s + 1, answer := some true, frames := [{ wait := .nextStart, pc := 10, pos := s, outermost := true }], weight := 1 } : M).step = { S2 text s 10 s 18 s7 with handed := s + 1, answer := some true, frames := [], weight := 0 } := rfl
  have e10 : it 3 ({ S2 text s 35 (s + 1) 18 s7 with handed := s + 1, answer := some true } : M) = ({ S2 text s 10 s 18 s7 with handed := s + 1, answer := some true, frames := [], weight := 0 } : M).step := by
    show (({ S2 text s 35 (s + 1) 18 s7 with handed := s + 1, answer := some true } : M).step).step.step = _
    rw [e8, e9]
  rw [e10]
  exact ⟨rfl, rfl, rfl⟩
theorem find2 (text : Array Nat) (h13 : ∀ q, text.getD q 0 ≠ 13) (p : Nat) (must : Bool) (hp : p ≤ text.size) : ∃ j, j ≤ 3 * text.size + 9 ∧ Find code2 text (h10 text) p (it j (forSearch code2 text 0 p text.size must)) := by
  by_cases h : p < text.size
  · rcases adm2 text p must h13 (text.size + 1 - p) p (({} : Seen).add 14) (by lia) with ⟨q, se, e, a, b, c, d⟩ | ⟨se, e, a⟩
    · obtain ⟨m, e2, f1, f2, f3⟩ := run2 text p q must se b c
      refine ⟨9, by lia, .inl ⟨q, a, b, c, d, ?_⟩⟩
      rw [fs2 text p must h, e]
      show (it 9 (set2 text must p q se)).outcome = _ ∧ (it 9 (set2 text must p q se)).start = _ ∧ (it 9 (set2 text must p q se)).handed = _
      rw [e2]; exact ⟨f1, f2, f3⟩
    · refine ⟨1, by lia, .inr ⟨a, ?_⟩⟩
      rw [fs2 text p must h, e]; rfl
  · exact ⟨1, by lia, .inr ⟨fun r a b => by lia, fs2_end text p must (by lia)⟩⟩
end Mine
end PartRe

section PartSo
open PySem PySem.W PyProof.Rows
set_option Elab.async false
set_option linter.unusedVariables false
namespace Mine
noncomputable def Res (n : Nat) (lt : Nat → Nat → Bool) {α : Type} : KasT α → (α → Prop) → Prop
  | .ret a, Q => Q a
  | .ask i j k, Q => i < n ∧ j < n ∧ Res n lt (k (lt i j)) Q
theorem Res.bind {n : Nat} {lt : Nat → Nat → Bool} {α β : Type} {f : α → KasT β} {Q : β → Prop} : ∀ {t : KasT α}, Res n lt t (fun a => Res n lt (f a) Q) → Res n lt (t.bind f) Q
  | .ret _, h => h
  | .ask i j k, h => ⟨h.1, h.2.1, Res.bind (t := k (lt i j)) h.2.2⟩
theorem Res.mono {n : Nat} {lt : Nat → Nat → Bool} {α : Type} {Q Q' : α → Prop} (hq : ∀ a, Q a → Q' a) : ∀ {t : KasT α}, Res n lt t Q → Res n lt t Q'
  | .ret _, h => hq _ h
  | .ask i j k, h => ⟨h.1, h.2.1, Res.mono hq (t := k (lt i j)) h.2.2⟩
/-- the walk with states between -/
theorem Res.wp {n : Nat} {lt : Nat → Nat → Bool} {cmp : Nat → Nat → (Bool → Shared → Prop) → Shared → Prop} {I : Shared → Prop} (hc : ∀ i j s C, i < n → j < n → I s → (∀ s', I s' → C (lt i j) s') → cmp i j C s) {α : Type} {Q : α → Prop} :
    ∀ {t : KasT α} {s : Shared}, Res n lt t Q → I s → t.kasWp cmp (fun a s' => Q a ∧ I s') s
  | .ret _, s, h, i => ⟨h, i⟩
  | .ask a b k, s, h, i => hc a b s _ h.1 h.2.1 i fun s' i' => Res.wp hc (t := k (lt a b)) h.2.2 i'
structure SOrd (n : Nat) (lt : Nat → Nat → Bool) : Prop where
  trans : ∀ i j k, lt i j = true → lt j k = true → lt i k = true
  tri : ∀ i j, i < n → j < n → i ≠ j → lt i j = false → lt j i = true
  asym : ∀ i j, lt i j = true → lt j i = false
section
variable {n : Nat} {lt : Nat → Nat → Bool}
noncomputable def gp (p : Array Nat) (i : Nat) : Nat := p.getD i 0
noncomputable def Asc (lt : Nat → Nat → Bool) (p : Array Nat) (m : Nat) : Prop := ∀ i j, i < j → j < m → lt (gp p i) (gp p j) = true
noncomputable def Desc (lt : Nat → Nat → Bool) (p : Array Nat) (m : Nat) : Prop := ∀ i j, i < j → j < m → lt (gp p j) (gp p i) = true
/-- a shuffle of the places -/
structure Shuf (n : Nat) (p : Array Nat) : Prop where
  perm : p.toList.Perm (List.range n)
theorem Shuf.size {p : Array Nat} (h : Shuf n p) : p.size = n := by have := h.perm.length_eq; simpa using this
theorem gp_eq {p : Array Nat} {i : Nat} (h : i < p.size) : gp p i = p[i] := by simp [gp, Array.getD, h]
theorem gp_some {p : Array Nat} {i : Nat} (h : i < p.size) : p[i]? = some (gp p i) := by rw [gp_eq h]; simp [h]
theorem Shuf.bd {p : Array Nat} (h : Shuf n p) {i : Nat} (hi : i < n) : gp p i < n := by
  have hs : i < p.size := by rw [h.size]; exact hi
  rw [gp_eq hs]
  have := h.perm.mem_iff (a := p[i]) |>.mp (by simp)
  simpa using this
theorem Shuf.ne {p : Array Nat} (h : Shuf n p) {i j : Nat} (hi : i < n) (hj : j < n) (hij : i ≠ j) : gp p i ≠ gp p j := by
  have nd : p.toList.Nodup := h.perm.nodup_iff.mpr List.nodup_range
  have h1 : i < p.size := by rw [h.size]; exact hi
  have h2 : j < p.size := by rw [h.size]; exact hj
  rw [gp_eq h1, gp_eq h2]
  intro e
  rw [List.nodup_iff_pairwise_ne, List.pairwise_iff_getElem] at nd
  rcases Nat.lt_or_gt_of_ne hij with q | q
  · exact nd i j (by simpa using h1) (by simpa using h2) q (by simpa using e)
  · exact nd j i (by simpa using h2) (by simpa using h1) q (by simpa using e.symm)
theorem Shuf.tri (O : SOrd n lt) {p : Array Nat} (h : Shuf n p) {i j : Nat} (hi : i < n) (hj : j < n) (hij : i ≠ j) (e : lt (gp p i) (gp p j) = false) : lt (gp p j) (gp p i) = true :=
  O.tri _ _ (h.bd hi) (h.bd hj) (h.ne hi hj hij) e
theorem Asc.succ (O : SOrd n lt) {p : Array Nat} {k : Nat} (h : Asc lt p k) (hk : 1 ≤ k) (e : lt (gp p (k - 1)) (gp p k) = true) : Asc lt p (k + 1) := by
  intro i j hij hj
  by_cases h1 : j < k
  · exact h i j hij h1
  · have : j = k := by lia
    subst this
    by_cases h2 : i = j - 1
    · subst h2; exact e
    · exact O.trans _ _ _ (h i (j - 1) (by lia) (by lia)) e
theorem Desc.succ (O : SOrd n lt) {p : Array Nat} {k : Nat} (h : Desc lt p k) (hk : 1 ≤ k) (e : lt (gp p k) (gp p (k - 1)) = true) : Desc lt p (k + 1) := by
  intro i j hij hj
  by_cases h1 : j < k
  · exact h i j hij h1
  · have : j = k := by lia
    subst this
    by_cases h2 : i = j - 1
    · subst h2; exact e
    · exact O.trans _ _ _ e (h i (j - 1) (by lia) (by lia))
theorem res_asc (O : SOrd n lt) {p : Array Nat} (S : Shuf n p) : ∀ (f k : Nat), 1 ≤ k → k + f ≤ n → Asc lt p k → Res n lt (kas_asc p f k) (fun m => k ≤ m ∧ m ≤ k + f ∧ Asc lt p m ∧ (m < k + f → lt (gp p m) (gp p (m - 1)) = true))
  | 0, k, hk, hn, h => ⟨Nat.le_refl _, Nat.le_refl _, h, fun q => absurd q (Nat.lt_irrefl _)⟩
  | f + 1, k, hk, hn, h => by
    refine ⟨S.bd (by lia), S.bd (by lia), ?_⟩
    cases e : lt (p.getD k 0) (p.getD (k - 1) 0) with
    | true =>
      dsimp only; rw [if_pos rfl]
      exact ⟨Nat.le_refl _, by lia, h, fun _ => e⟩
    | false =>
      dsimp only; rw [if_neg (by simp)]
      have e' : lt (gp p (k - 1)) (gp p k) = true := S.tri O (by lia) (by lia) (by lia) e
      refine Res.mono (fun m hm => ?_) (res_asc O S f (k + 1) (by lia) (by lia) (h.succ O hk e'))
      exact ⟨by lia, by lia, hm.2.2.1, fun q => hm.2.2.2 (by lia)⟩
theorem res_desc (O : SOrd n lt) {p : Array Nat} (S : Shuf n p) : ∀ (f k : Nat), 1 ≤ k → k + f ≤ n → Desc lt p k → Res n lt (kas_desc f p k 0) (fun r => r.1 = p ∧ r.2.2 = 0 ∧ k ≤ r.2.1 ∧ r.2.1 ≤ k + f ∧ Desc lt p r.2.1)
  | 0, k, hk, hn, h => ⟨rfl, rfl, Nat.le_refl _, Nat.le_refl _, h⟩
  | f + 1, k, hk, hn, h => by
    refine ⟨S.bd (by lia), S.bd (by lia), ?_⟩
    cases e : lt (p.getD k 0) (p.getD (k - 1) 0) with
    | true =>
      dsimp only; rw [if_pos rfl, if_neg (by lia)]
      refine Res.mono (fun m hm => ?_) (res_desc O S f (k + 1) (by lia) (by lia) (h.succ O hk e))
      exact ⟨hm.1, hm.2.1, by lia, by lia, hm.2.2.2.2⟩
    | false =>
      dsimp only; rw [if_neg (by simp)]
      refine ⟨S.bd (by lia), S.bd (by lia), ?_⟩
      have e' : lt (gp p (k - 1)) (gp p k) = true := S.tri O (by lia) (by lia) (by lia) e
      have e'' : lt (p.getD (k - 1) 0) (p.getD k 0) = true := e'
      rw [e'']; dsimp only; rw [if_pos rfl]
      exact ⟨rfl, rfl, Nat.le_refl _, (by show k ≤ k + (f + 1); lia), h⟩
theorem rev_shuf {p : Array Nat} (S : Shuf n p) (i j : Nat) : Shuf n (kas_rev p i j) := ⟨(Array.perm_iff_toList_perm.mp (mirror_perm p i j _)).trans S.perm⟩
theorem rev_gp {p : Array Nat} (S : Shuf n p) {m : Nat} (hm : m ≤ n) {k : Nat} (hk : k < n) : gp (kas_rev p 0 m) k = if k < m then gp p (m - 1 - k) else gp p k := by
  have e := getElem?_mirror_all (xs := p) (i := 0) (j := m) (by rw [S.size]; exact hm) k
  have h1 : k < (kas_rev p 0 m).size := by rw [(rev_shuf S 0 m).size]; exact hk
  have e1 := gp_some h1
  have e2 : (kas_rev p 0 m)[k]? = _ := e
  rw [e1] at e2
  by_cases h : k < m
  · rw [if_pos ⟨Nat.zero_le _, h⟩, gp_some (by rw [S.size]; lia)] at e2
    rw [if_pos h]
    have := Option.some.inj e2
    rw [this, show 0 + m - 1 - k = m - 1 - k by lia]
  · rw [if_neg (by lia), gp_some (by rw [S.size]; lia)] at e2
    rw [if_neg h]; exact Option.some.inj e2
theorem rev_asc {p : Array Nat} (S : Shuf n p) {m : Nat} (hm : m ≤ n) (h : Desc lt p m) : Asc lt (kas_rev p 0 m) m := by
  intro i j hij hj
  rw [rev_gp S hm (by lia), rev_gp S hm (by lia), if_pos (by lia), if_pos hj]
  exact h _ _ (by lia) (by lia)
theorem res_tail (O : SOrd n lt) {p : Array Nat} (S : Shuf n p) {m : Nat} (h1 : 1 ≤ m) (hm : m ≤ n) (h : Desc lt p m) : Res n lt (kas_tail3 m n p) (fun r => Shuf n r.2 ∧ 1 ≤ r.1 ∧ r.1 ≤ n ∧ Asc lt r.2 r.1) := by
  refine Res.bind (Res.mono (fun k hk => ?_) (res_asc O (rev_shuf S 0 m) (n - m) m h1 (by lia) (rev_asc S hm h)))
  exact ⟨rev_shuf S 0 m, by show 1 ≤ k; lia, by show k ≤ n; lia, hk.2.2.1⟩
theorem res_count (O : SOrd n lt) {p : Array Nat} (S : Shuf n p) (h2 : 2 ≤ n) : Res n lt (kas_count n p) (fun r => Shuf n r.2 ∧ 1 ≤ r.1 ∧ r.1 ≤ n ∧ Asc lt r.2 r.1) := by
  refine Res.bind (Res.mono (fun k hk => ?_) (res_asc O S (n - 1) 1 (Nat.le_refl _) (by lia) (fun i j a b => by lia)))
  obtain ⟨a1, a2, a3, a4⟩ := hk
  by_cases e : k = n
  · subst e
    rw [if_pos (by simp)]
    exact ⟨S, a1, Nat.le_refl _, a3⟩
  · rw [if_neg (by simpa using e)]
    by_cases hk1 : k > 1
    · rw [if_pos hk1]
      refine ⟨S.bd (by lia), S.bd (by lia), ?_⟩
      have : lt (p.getD 0 0) (p.getD (k - 1) 0) = true := a3 0 (k - 1) (by lia) (by lia)
      rw [this]; dsimp only; rw [if_pos rfl]
      exact ⟨S, a1, by show k ≤ n; lia, a3⟩
    · rw [if_neg hk1]
      have hk1 : k = 1 := by lia
      subst hk1
      have d1 := a4 (by lia)
      refine Res.bind (Res.mono (fun r hr => ?_) (res_desc O S (n - (1 + 1)) (1 + 1) (by lia) (by lia) (fun i j a b => ?_)))
      · obtain ⟨b1, b2, b3, b4, b5⟩ := hr
        rw [b2, if_neg (by lia), b1]
        exact res_tail O S (by lia) (by lia) b5
      · have hi : i = 0 := by lia
        have hj : j = 1 := by lia
        subst hi; subst hj; exact d1
theorem res_place {p : Array Nat} (O : SOrd n lt) (S : Shuf n p) {k : Nat} (hk : k < n) (ha : Asc lt p k) : ∀ (f l r : Nat), l ≤ r → r ≤ k → r - l ≤ f → (∀ i, i < l → lt (gp p i) (gp p k) = true) → (∀ i, r ≤ i → i < k → lt (gp p k) (gp p i) = true) →
    Res n lt (kas_place p k f l r) (fun x => x ≤ k ∧ (∀ i, i < x → lt (gp p i) (gp p k) = true) ∧ (∀ i, x ≤ i → i < k → lt (gp p k) (gp p i) = true))
  | 0, l, r, hlr, hrk, hf, h1, h2 => ⟨by lia, h1, fun i a b => h2 i (by lia) b⟩
  | f + 1, l, r, hlr, hrk, hf, h1, h2 => by
    unfold kas_place
    by_cases hge : l ≥ r
    · rw [if_pos hge]
      exact ⟨by lia, h1, fun i a b => h2 i (by lia) b⟩
    · rw [if_neg hge]
      have hm : (l + r) / 2 < k := by lia
      refine ⟨S.bd hk, S.bd (by lia), ?_⟩
      cases e : lt (p.getD k 0) (p.getD ((l + r) / 2) 0) with
      | true =>
        dsimp only; rw [if_pos rfl]
        refine res_place O S hk ha f l _ (by lia) (by lia) (by lia) h1 fun i a b => ?_
        by_cases hi : i = (l + r) / 2
        · subst hi; exact e
        · exact O.trans _ _ _ e (ha _ _ (by lia) b)
      | false =>
        dsimp only; rw [if_neg (by simp)]
        have e' : lt (gp p ((l + r) / 2)) (gp p k) = true := S.tri O hk (by lia) (by lia) e
        refine res_place O S hk ha f _ r (by lia) hrk (by lia) (fun i a => ?_) h2
        by_cases hi : i = (l + r) / 2
        · subst hi; exact e'
        · exact O.trans _ _ _ (ha _ _ (by lia) hm) e'
theorem bub_shuf {p : Array Nat} (S : Shuf n p) (k d : Nat) : Shuf n (bubble p k d) := ⟨(Array.perm_iff_toList_perm.mp (bubble_perm p k d)).trans S.perm⟩
theorem bub_gp {p : Array Nat} (S : Shuf n p) {k d : Nat} (hk : k < n) (hd : d ≤ k) {i : Nat} (hi : i < n) : gp (bubble p k d) i = if i = k - d then gp p k else if k - d < i ∧ i ≤ k then gp p (i - 1) else gp p i := by
  have e := getElem?_bubble (xs := p) (src := k) (by rw [S.size]; exact hk) d hd i
  rw [gp_some (by rw [(bub_shuf S k d).size]; exact hi)] at e
  repeat' split
  · rename_i h; rw [if_pos h, gp_some (by rw [S.size]; exact hk)] at e; exact Option.some.inj e
  · rename_i h h2; rw [if_neg h, if_pos h2, gp_some (by rw [S.size]; lia)] at e; exact Option.some.inj e
  · rename_i h h2; rw [if_neg h, if_neg h2, gp_some (by rw [S.size]; lia)] at e; exact Option.some.inj e
theorem res_bin (O : SOrd n lt) : ∀ (f : Nat) (p : Array Nat) (k : Nat), Shuf n p → 1 ≤ k → k + f = n → Asc lt p k → Res n lt (kas_bin f p k) (fun q => Shuf n q ∧ Asc lt q n)
  | 0, p, k, S, hk, hf, h => ⟨S, by have : k = n := by lia
                                    subst this; exact h⟩
  | f + 1, p, k, S, hk, hf, h => by
    have hkn : k < n := by lia
    refine Res.bind (Res.mono (fun l hl => ?_) (res_place O S hkn h k 0 k (Nat.zero_le _) (Nat.le_refl _) (by lia) (fun i a => by lia) (fun i a b => by lia)))
    obtain ⟨l1, l2, l3⟩ := hl
    refine res_bin O f (bubble p k (k - l)) (k + 1) (bub_shuf S k _) (by lia) (by lia) ?_
    intro i j hij hj
    rw [bub_gp S hkn (by lia) (by lia), bub_gp S hkn (by lia) (by lia), show k - (k - l) = l by lia]
    repeat' split
    all_goals first
      | (exfalso; lia)
      | exact l2 _ (by lia)
      | exact l3 _ (by lia) (by lia)
      | exact h _ _ (by lia) (by lia)
theorem res_sort (O : SOrd n lt) (h2 : 2 ≤ n) : Res n lt (kas_sort n) (fun q => Shuf n q ∧ Asc lt q n) := by
  have S : Shuf n (List.toArray (List.range n)) := ⟨List.Perm.refl _⟩
  refine Res.bind (Res.mono (fun r hr => ?_) (res_count O S h2))
  obtain ⟨a1, a2, a3, a4⟩ := hr
  split
  · rename_i h
    rw [show max r.1 1 = r.1 by lia]
    exact res_bin O (n - r.1) r.2 r.1 a1 a2 (by lia) a4
  · rename_i h
    have : r.1 = n := by lia
    exact ⟨a1, by rw [this] at a4; exact a4⟩
end
end Mine
end PartSo

section Bodies
open PySem PySem.W PyProof.Rows
set_option maxRecDepth 100000
set_option maxHeartbeats 400000
set_option linter.unusedVariables false
set_option linter.unusedSimpArgs false
set_option hygiene false
set_option compiler.extract_closed false
namespace Mine
local macro_rules | `(tactic| walk_at "cx") => `(tactic| first | assumption | exact Cx.tok (by assumption) _ | (refine Cx.tok ?_ _; walk_at "cx"))

section PartA0
section
variable {w : World} {A : Around} {E : Value → Shared → Prop} {s s₀ : Shared} {L : Addr} {l : List (Str × Value)} {g : Vis} {pr : List (Addr × Obj)} {env : Env}
open PySem.W.X
local macro_rules | `(tactic| x_close) => `(tactic| first | exact hQ _ _ (fun b o e => (by assumption : Mem s.heap _ [] _).keep b o e (by simp [X.away])) | exact hQ _ _ (fun _ _ e => e))
theorem type_str {x : Str} {t : Tok} {k : Nat} {Q : Value → Shared → Prop} (kin : (K2 w.params).In s.heap) (o : Ok k A) (hQ : ∀ h t', (∀ b o, s.heap.get? b = some o → h.get? b = some o) → Q (.type "str") { s with heap := h, toks := t' }) :
    wpAny (model P w) A (call (.type "type") [.str x t]) Q E s := by
  refine low0 o ?_
  x_run
theorem issub_str {a : Addr} {k : Nat} {Q : Value → Shared → Prop} (kin : (K2 w.params).In s.heap) (o : Ok k A) (ha : s.heap.get? a = some { cls := .type "tuple", data := .seq #[.type "str", .type "bytes"] })
    (hQ : ∀ h t', (∀ b o, s.heap.get? b = some o → h.get? b = some o) → Q (.bool true) { s with heap := h, toks := t' }) :
    wpAny (model P w) A (call (.builtin "issubclass") [.type "str", .ref a]) Q E s := by
  refine low0 o ?_
  x_run
end
theorem cy1 {w : World} {A : Around} {E : Value → Shared → Prop} {s : Shared} {env : Env} {pos : Pos} {id : String} {e : Expr} {Q : Value → Shared → Prop} (hs : starEach [e] env = [(false, eval e env)])
    (h : wpAny (model P w) A (eval e env) (fun v s₁ => wpAny (model P w) A (call (.type id) [v] []) Q E s₁) E s) :
    wpAny (model P w) A (callWith pos (.type id) [] (backTo pos (starEach [e] env)) []) Q E s := by
  rw [hs]
  refine PySem.callWith_type rfl (Calls.evalArgs_plain ?_)
  exact Calls.spliced_cons (wpAny_mono h (fun v s₁ q => Calls.spliced_nil q) fun _ _ q => q)
theorem fspath_c {w A s k} {x : Str} {t : Tok} (kin : (K2 w.params).In s.heap) (o : Ok (k+1) A) : Spec w A 144 [.str x t] (fun v _ _ => v = .str x t) s := by
  refine enter (binds := [("path", .str x t)]) kin o rfl rfl rfl rfl rfl rfl rfl rfl rfl fun L s' C => ?_
  ((with_reducible refine ex_gen ?_); intro Qn hN hO)
  ((with_reducible refine wpAny_Assign_Name ?_ ?e1); (case e1 => exact rfl))
  (with_reducible refine nm_call ?_)
  (refine nm_b (by walk_at "cx") rfl rfl rfl rfl rfl rfl rfl ?_)
  dsimp only
  refine cy1 rfl ?_
  (refine nm_l (by walk_at "cx") rfl rfl rfl rfl rfl ?_)
  refine type_str (k := k) (Cx.k (by walk_at "cx")) (o.deeper _) fun h1 t1 k1 => ?_
  have z1 := Cx.grow (by walk_at "cx") k1 t1
  replace z1 := z1.2
  (((with_reducible refine st_l (by walk_at "cx") ?e1 ?e2 ?e3 ?_); (case e1 => exact rfl); (case e2 => exact rfl); (case e3 => exact rfl); intro _ _))
  ((with_reducible refine qnx (by assumption) ?_); (try clear hN hO))
  ((with_reducible refine ex_gen ?_); intro Qn hN hO)
  with_reducible refine wpAny_If ?_
  ((with_reducible refine isTrue_plain ?_ ?e1); (case e1 => exact rfl))
  (with_reducible refine nm_call ?_)
  (refine nm_b (by walk_at "cx") rfl rfl rfl rfl rfl rfl rfl ?_)
  (refine' cb2 ?e2 ?_); (case e2 => exact rfl)
  (refine nm_l (by walk_at "cx") rfl rfl rfl rfl rfl ?_)
  with_reducible refine tup_ ?_
  ((with_reducible refine wpAny_items_cons ?_ ?e1); (case e1 => exact rfl))
  (refine nm_b (by walk_at "cx") rfl rfl rfl rfl rfl rfl rfl ?_)
  ((with_reducible refine wpAny_items_cons ?_ ?e1); (case e1 => exact rfl))
  (refine nm_b (by walk_at "cx") rfl rfl rfl rfl rfl rfl rfl ?_)
  with_reducible refine wpAny_items_nil ?_
  dsimp only
  refine ⟨by (decide), by walk_at "cx", fun a s2 ha ha0 C2 => ?_⟩
  refine issub_str (k := k) C2.k (o.deeper _) (C2.at (put_self _ _ _)) fun h2 t2 k2 => ?_
  have z2 := (C2.grow k2 t2).2
  with_reducible refine wpAny_truthy_bool ?_
  with_reducible refine it_t ?_
  ((with_reducible refine ex_gen ?_); intro Qn hN hO)
  with_reducible refine wpAny_Return_some ?_
  (refine nm_l (by walk_at "cx") rfl rfl rfl rfl rfl ?_)
  ((with_reducible refine qot (by assumption) ?e1 ?_); (case e1 => exact fun h => nomatch h); (try clear hN hO))
  ((with_reducible refine qot (by assumption) ?e1 ?_); (case e1 => exact fun h => nomatch h); (try clear hN hO))
  dsimp only
  refine And.intro (Cx.to (by walk_at "cx")) ?_
  rfl
theorem get_sep_c {w A s k} {x : Str} {t : Tok} (kin : (K2 w.params).In s.heap) (o : Ok (k+1) A) : Spec w A 158 [.str x t] (fun v _ _ => ∃ t', v = .str (T [47]) t') s := by
  refine enter (binds := [("path", .str x t)]) kin o rfl rfl rfl rfl rfl rfl rfl rfl rfl fun L s' C => ?_
  ((with_reducible refine ex_gen ?_); intro Qn hN hO)
  with_reducible refine wpAny_If ?_
  ((with_reducible refine isTrue_plain ?_ ?e1); (case e1 => exact rfl))
  (with_reducible refine nm_call ?_)
  (refine nm_b (by walk_at "cx") rfl rfl rfl rfl rfl rfl rfl ?_)
  (refine' cb2 ?e2 ?_); (case e2 => exact rfl)
  (refine nm_l (by walk_at "cx") rfl rfl rfl rfl rfl ?_)
  (refine nm_b (by walk_at "cx") rfl rfl rfl rfl rfl rfl rfl ?_)
  dsimp only
  refine isi_str (k := k) (Cx.k (by walk_at "cx")) (o.deeper _) fun h1 t1 k1 => ?_
  have z1 := Cx.grow (by walk_at "cx") k1 t1
  replace z1 := z1.2
  with_reducible refine wpAny_truthy_bool ?_
  with_reducible refine it_f ?_
  ((with_reducible refine ex_gen ?_); intro Qn hN hO)
  with_reducible refine wpAny_Return_some ?_
  ((with_reducible refine' const_T ?e1 ?_); (case e1 => first | exact slash_T | exact dot_T | exact dots_T | exact empty_T | exact nl_T | exact crlf_T | exact dcrlf_T | exact a_T | exact da_T | exact ddd_T | exact ah_T | exact sdots_T))
  ((with_reducible refine qot (by assumption) ?e1 ?_); (case e1 => exact fun h => nomatch h); (try clear hN hO))
  ((with_reducible refine qot (by assumption) ?e1 ?_); (case e1 => exact fun h => nomatch h); (try clear hN hO))
  dsimp only
  refine And.intro (Cx.to (by walk_at "cx")) ?_
  exact ⟨_, rfl⟩
end PartA0

section PartA2
section
variable {w : World} {A : Around} {E : Value → Shared → Prop} {s : Shared} {env : Env}
theorem tr_T {l : List Nat} {t : Tok} {Q : Bool → Shared → Prop} (hl : l.length ≤ 100000) (h : Q (!l.isEmpty) { s with toks := s.toks + 1 + 1 }) : wpAny (model P w) A (truthy (.str (T l) t)) Q E s := by
  refine PySem.P.truthy_str (by rw [T_len]; lia) ?_
  have : (((T l).length : Int) != 0) = !l.isEmpty := by
    rw [T_len]
    cases l with
    | nil => rfl
    | cons c r => simp only [List.length_cons, List.isEmpty_cons, Bool.not_false, bne_iff_ne]; lia
  rw [this]; exact h
theorem tr_ne {l : List Nat} {t : Tok} {Q : Bool → Shared → Prop} (hl : l.length ≤ 100000) (hn : l ≠ []) (h : Q true { s with toks := s.toks + 1 + 1 }) : wpAny (model P w) A (truthy (.str (T l) t)) Q E s :=
  tr_T hl (by cases l with
    | nil => exact absurd rfl hn
    | cons c r => exact h)
theorem foldl_rep (n : Nat) (c : Nat) : ∀ acc : Array Nat, ((List.replicate n #[c]).foldl (· ++ ·) acc).toList = acc.toList ++ List.replicate n c := by
  induction n with
  | zero => intro acc; simp
  | succ n ih => intro acc; rw [List.replicate_succ, List.foldl_cons, ih]; simp [List.replicate_succ]
theorem mul_T {c n : Nat} {t u : Tok} {Q : Value → Shared → Prop} (hn : 1 ≤ n) (hl : n ≤ 100000) (h : ∀ t' k, Q (.str (T (List.replicate n c)) t') { s with toks := k }) : wpAny (model P w) A (binaryOp .Mult (.str (T [c]) t) (.int (n : Int) u)) Q E s := by
  have hlen : (T [c]).length = 1 := T_len [c]
  refine SB.mul ⟨?_, ?_, ?_⟩ fun t' k => ?_
  · simp only [Bool.or_eq_false_iff, decide_eq_false_iff_not]; lia
  · intro _ _; rw [hlen]; simp only [gt_iff_lt, Int.not_lt]
    refine Int.le_ediv_of_mul_le (by lia) ?_
    lia
  · intro _ _; rw [hlen]; unfold PySem.Builtin.Str.tooLong; simp [sizeLine_eq]; lia
  · have : Txt.mul (T [c]) (n : Int) = T (List.replicate n c) := by
      unfold Txt.mul
      rw [if_neg (by lia)]
      split
      · rename_i q
        rw [hlen] at q
        have : n = 1 := by simp at q; lia
        subst this; rfl
      · refine str_ext ?_
        show ((List.replicate (n : Int).toNat #[c]).foldl (· ++ ·) #[]).toList = _
        rw [foldl_rep]; simp
    rw [this]; exact h t' k
end
theorem len_T {w : World} {A : Around} {E : Value → Shared → Prop} {s : Shared} {l : List Nat} {t : Tok} {Q : Value → Shared → Prop} (hl : l.length ≤ 100000) (h : Q (.int l.length (s.toks + 1)) { s with toks := s.toks + 1 + 1 }) : wpAny (model P w) A (call (.builtin "len") [.str (T l) t] []) Q E s := by
  refine PyProof.Rows.len_str (by rw [T_len]; lia) ?_
  rw [T_len]; exact h
theorem basename_c {w A s k} {p n : List Nat} {t : Tok} (kin : (K2 w.params).In s.heap) (hA : Ok (k+2) A) (hn : 47 ∉ n) (hlen : (p ++ 47 :: n).length ≤ 1000) :
    Spec w A 179 [.str (T (p ++ 47 :: n)) t] (fun v _ _ => ∃ t', v = .str (T n) t') s := by
  refine enter (binds := [("p", .str _ t)]) kin hA rfl rfl rfl rfl rfl rfl rfl rfl rfl fun L s' C => ?_
  ((with_reducible refine ex_gen ?_); intro Qn hN hO)
  ((with_reducible refine wpAny_Assign_Name ?_ ?e1); (case e1 => exact rfl))
  (with_reducible refine nm_call ?_)
  (refine nm_g (by walk_at "cx") rfl rfl rfl rfl rfl ?_)
  (refine' cu1 ?e1 ?e2 ?_); (case e1 => exact rfl); (case e2 => exact rfl)
  (refine nm_l (by walk_at "cx") rfl rfl rfl rfl rfl ?_)
  ((with_reducible refine And.intro ?k1 ?_); (case k1 => exact Cx.k (by walk_at "cx")))
  refine use (by assumption) (fspath_c (Cx.k (by assumption)) (hA.deeper _)) fun v g' s1 e q C1 => ?_
  subst q
  (((with_reducible refine st_l (by walk_at "cx") ?e1 ?e2 ?e3 ?_); (case e1 => exact rfl); (case e2 => exact rfl); (case e3 => exact rfl); intro _ _))
  ((with_reducible refine qnx (by assumption) ?_); (try clear hN hO))
  ((with_reducible refine ex_gen ?_); intro Qn hN hO)
  ((with_reducible refine wpAny_Assign_Name ?_ ?e1); (case e1 => exact rfl))
  (with_reducible refine nm_call ?_)
  (refine nm_g (by walk_at "cx") rfl rfl rfl rfl rfl ?_)
  (refine' cu1 ?e1 ?e2 ?_); (case e1 => exact rfl); (case e2 => exact rfl)
  (refine nm_l (by walk_at "cx") rfl rfl rfl rfl rfl ?_)
  ((with_reducible refine And.intro ?k1 ?_); (case k1 => exact Cx.k (by walk_at "cx")))
  refine use (by assumption) (get_sep_c (Cx.k (by assumption)) (hA.deeper _)) fun v g' s1 e q C1 => ?_
  obtain ⟨t', rfl⟩ := q
  (((with_reducible refine st_l (by walk_at "cx") ?e1 ?e2 ?e3 ?_); (case e1 => exact rfl); (case e2 => exact rfl); (case e3 => exact rfl); intro _ _))
  ((with_reducible refine qnx (by assumption) ?_); (try clear hN hO))
  ((with_reducible refine ex_gen ?_); intro Qn hN hO)
  ((with_reducible refine wpAny_Assign_Name ?_ ?e1); (case e1 => exact rfl))
  with_reducible refine wpAny_BinOp ?_
  (refine' Call_method1 ?e1 ?e2 ?e3 ?_); (case e1 => exact rfl); (case e2 => exact rfl); (case e3 => exact rfl)
  (refine nm_l (by walk_at "cx") rfl rfl rfl rfl rfl ?_)
  refine SB.rfind ?_
  (refine nm_l (by walk_at "cx") rfl rfl rfl rfl rfl ?_)
  refine ⟨_, _, rfl, ?_⟩
  with_reducible refine wpAny_Constant_int ?_
  with_reducible refine add_int ?_
  dsimp only
  (((with_reducible refine st_l (by walk_at "cx") ?e1 ?e2 ?e3 ?_); (case e1 => exact rfl); (case e2 => exact rfl); (case e3 => exact rfl); intro _ _))
  ((with_reducible refine qnx (by assumption) ?_); (try clear hN hO))
  ((with_reducible refine ex_gen ?_); intro Qn hN hO)
  with_reducible refine wpAny_Return_some ?_
  refine sl_str ?e1 ?_
  case e1 => (intro _ _; rfl)
  (refine nm_l (by walk_at "cx") rfl rfl rfl rfl rfl ?_)
  rw [evalPart_some]
  (refine nm_l (by walk_at "cx") rfl rfl rfl rfl rfl ?_)
  (rw [evalPart_none]); with_reducible refine wpAny_pure ?_
  refine ⟨_, _, some (_, _), none, rfl, rfl, rfl, ?_, T n, ?_, by assumption, fun t' s' C' => ?_⟩
  · rw [T_len]; exact Nat.le_trans hlen (by decide)
  · show Txt.slice (T (p ++ 47 :: n)) (some (Txt.rfind (T (p ++ 47 :: n)) (T [47]) + 1)) none = _
    rw [rfind_T hn]
    have := slice_from (p ++ 47 :: n) (p.length + 1) (by simp)
    rw [show ((p.length : Int) + 1) = ((p.length + 1 : Nat) : Int) by lia, this]
    have : List.drop (p.length + 1) (p ++ 47 :: n) = n := by simp [List.drop_append]
    rw [this]
  ((with_reducible refine qot (by assumption) ?e1 ?_); (case e1 => exact fun h => nomatch h); (try clear hN hO))
  dsimp only
  refine And.intro (Cx.to (by walk_at "cx")) ?_
  exact ⟨t', rfl⟩
theorem dirname_c {w A s k} {p n : List Nat} {t : Tok} (kin : (K2 w.params).In s.heap) (hA : Ok (k+2) A) (hn : 47 ∉ n) (hlen : (p ++ 47 :: n).length ≤ 1000) (hp : p.getLast? ≠ some 47) :
    Spec w A 186 [.str (T (p ++ 47 :: n)) t] (fun v _ _ => ∃ t', v = .str (T (if p = [] then [47] else p)) t') s := by
  refine enter (binds := [("p", .str _ t)]) kin hA rfl rfl rfl rfl rfl rfl rfl rfl rfl fun L s' C => ?_
  have hpl : p.length ≤ 1000 := by simp at hlen; lia
  ((with_reducible refine ex_gen ?_); intro Qn hN hO)
  ((with_reducible refine wpAny_Assign_Name ?_ ?e1); (case e1 => exact rfl))
  (with_reducible refine nm_call ?_)
  (refine nm_g (by walk_at "cx") rfl rfl rfl rfl rfl ?_)
  (refine' cu1 ?e1 ?e2 ?_); (case e1 => exact rfl); (case e2 => exact rfl)
  (refine nm_l (by walk_at "cx") rfl rfl rfl rfl rfl ?_)
  ((with_reducible refine And.intro ?k1 ?_); (case k1 => exact Cx.k (by walk_at "cx")))
  refine use (by assumption) (fspath_c (Cx.k (by assumption)) (hA.deeper _)) fun v g' s1 e q C1 => ?_
  subst q
  (((with_reducible refine st_l (by walk_at "cx") ?e1 ?e2 ?e3 ?_); (case e1 => exact rfl); (case e2 => exact rfl); (case e3 => exact rfl); intro _ _))
  ((with_reducible refine qnx (by assumption) ?_); (try clear hN hO))
  ((with_reducible refine ex_gen ?_); intro Qn hN hO)
  ((with_reducible refine wpAny_Assign_Name ?_ ?e1); (case e1 => exact rfl))
  (with_reducible refine nm_call ?_)
  (refine nm_g (by walk_at "cx") rfl rfl rfl rfl rfl ?_)
  (refine' cu1 ?e1 ?e2 ?_); (case e1 => exact rfl); (case e2 => exact rfl)
  (refine nm_l (by walk_at "cx") rfl rfl rfl rfl rfl ?_)
  ((with_reducible refine And.intro ?k1 ?_); (case k1 => exact Cx.k (by walk_at "cx")))
  refine use (by assumption) (get_sep_c (Cx.k (by assumption)) (hA.deeper _)) fun v g' s1 e q C1 => ?_
  obtain ⟨t', rfl⟩ := q
  (((with_reducible refine st_l (by walk_at "cx") ?e1 ?e2 ?e3 ?_); (case e1 => exact rfl); (case e2 => exact rfl); (case e3 => exact rfl); intro _ _))
  ((with_reducible refine qnx (by assumption) ?_); (try clear hN hO))
  ((with_reducible refine ex_gen ?_); intro Qn hN hO)
  ((with_reducible refine wpAny_Assign_Name ?_ ?e1); (case e1 => exact rfl))
  with_reducible refine wpAny_BinOp ?_
  (refine' Call_method1 ?e1 ?e2 ?e3 ?_); (case e1 => exact rfl); (case e2 => exact rfl); (case e3 => exact rfl)
  (refine nm_l (by walk_at "cx") rfl rfl rfl rfl rfl ?_)
  refine SB.rfind ?_
  (refine nm_l (by walk_at "cx") rfl rfl rfl rfl rfl ?_)
  refine ⟨_, _, rfl, ?_⟩
  with_reducible refine wpAny_Constant_int ?_
  with_reducible refine add_int ?_
  dsimp only
  (((with_reducible refine st_l (by walk_at "cx") ?e1 ?e2 ?e3 ?_); (case e1 => exact rfl); (case e2 => exact rfl); (case e3 => exact rfl); intro _ _))
  ((with_reducible refine qnx (by assumption) ?_); (try clear hN hO))
  ((with_reducible refine ex_gen ?_); intro Qn hN hO)
  ((with_reducible refine wpAny_Assign_Name ?_ ?e1); (case e1 => exact rfl))
  refine sl_str ?e1 ?_
  case e1 => (intro _ _; rfl)
  (refine nm_l (by walk_at "cx") rfl rfl rfl rfl rfl ?_)
  (rw [evalPart_none]); with_reducible refine wpAny_pure ?_
  rw [evalPart_some]
  (refine nm_l (by walk_at "cx") rfl rfl rfl rfl rfl ?_)
  refine ⟨_, _, none, some (_, _), rfl, rfl, rfl, ?_, T (p ++ [47]), ?_, by assumption, fun t' s' C' => ?_⟩
  · rw [T_len]; exact Nat.le_trans hlen (by decide)
  · show Txt.slice (T (p ++ 47 :: n)) none (some (Txt.rfind (T (p ++ 47 :: n)) (T [47]) + 1)) = _
    rw [rfind_T hn]
    have := slice_upto (p ++ 47 :: n) (p.length + 1) (by simp)
    rw [show ((p.length : Int) + 1) = ((p.length + 1 : Nat) : Int) by lia, this]
    have : List.take (p.length + 1) (p ++ 47 :: n) = p ++ [47] := by rw [List.take_append, List.take_of_length_le (by lia)]; simp
    rw [this]
  (((with_reducible refine st_l (by walk_at "cx") ?e1 ?e2 ?e3 ?_); (case e1 => exact rfl); (case e2 => exact rfl); (case e3 => exact rfl); intro _ _))
  ((with_reducible refine qnx (by assumption) ?_); (try clear hN hO))
  ((with_reducible refine ex_gen ?_); intro Qn hN hO)
  with_reducible refine wpAny_If ?_
  with_reducible refine isTrue_and ?_
  ((with_reducible refine isTrue_plain ?_ ?e1); (case e1 => exact rfl))
  (refine nm_l (by walk_at "cx") rfl rfl rfl rfl rfl ?_)
  refine tr_ne (by simp; lia) (by simp) ?_
  with_reducible refine it_t ?_
  with_reducible refine isTrue_and ?_
  ((with_reducible refine wpAny_isTrue_Compare1 ?_ ?e1); (case e1 => with_unfolding_all rfl))
  (refine nm_l (by walk_at "cx") rfl rfl rfl rfl rfl ?_)
  with_reducible refine wpAny_BinOp ?_
  (refine nm_l (by walk_at "cx") rfl rfl rfl rfl rfl ?_)
  (with_reducible refine nm_call ?_)
  (refine nm_b (by walk_at "cx") rfl rfl rfl rfl rfl rfl rfl ?_)
  (refine' cb1 ?e2 ?_); (case e2 => exact rfl)
  (refine nm_l (by walk_at "cx") rfl rfl rfl rfl rfl ?_)
  refine len_T (by simp; lia) ?_
  dsimp only
  with_reducible refine mul_T (n := (p ++ [47]).length) ?_ ?_ ?_
  · simp
  · simp; lia
  intro t2 k2
  with_reducible refine PyProof.Rows.ne_str ?_
  with_reducible refine wpAny_truthy_bool ?_
  dsimp only
  by_cases hp0 : p = []
  · subst hp0
    have hz : (T (([] : List Nat) ++ [47]) != T (List.replicate (([] : List Nat) ++ [47]).length 47)) = false := by decide
    rw [hz]
    with_reducible refine it_f ?_
    with_reducible refine it_f ?_
    with_reducible refine wpAny_execs_nil ?_
    ((with_reducible refine qnx (by assumption) ?_); (try clear hN hO))
    ((with_reducible refine ex_gen ?_); intro Qn hN hO)
    with_reducible refine wpAny_Return_some ?_
    (refine nm_l (by walk_at "cx") rfl rfl rfl rfl rfl ?_)
    ((with_reducible refine qot (by assumption) ?e1 ?_); (case e1 => exact fun h => nomatch h); (try clear hN hO))
    dsimp only
    refine And.intro (Cx.to (by walk_at "cx")) ?_
    exact ⟨_, rfl⟩
  · have : (T (p ++ [47]) != T (List.replicate (p ++ [47]).length 47)) = true := by
      rw [T_bne, bne_iff_ne]
      intro q
      rw [List.length_append, List.length_singleton, List.replicate_succ'] at q
      have q := (List.append_inj' q rfl).1
      apply hp
      rw [q, List.getLast?_replicate]
      rw [if_neg]
      intro z; exact hp0 (List.length_eq_zero_iff.mp z)
    rw [this]
    with_reducible refine it_t ?_
    with_reducible refine isTrue_and_nil ?_
    with_reducible refine it_t ?_
    ((with_reducible refine ex_gen ?_); intro Qn hN hO)
    ((with_reducible refine wpAny_Assign_Name ?_ ?e1); (case e1 => exact rfl))
    (refine' Call_method1 ?e1 ?e2 ?e3 ?_); (case e1 => exact rfl); (case e2 => exact rfl); (case e3 => exact rfl)
    (refine nm_l (by walk_at "cx") rfl rfl rfl rfl rfl ?_)
    with_reducible refine SB.rstripChars ?_ ?_
    rotate_left
    · rw [T_len]; simp [sizeLine_eq]; lia
    (refine nm_l (by walk_at "cx") rfl rfl rfl rfl rfl ?_)
    dsimp only
    refine ⟨_, _, rfl, fun t3 k3 => ?_⟩
    rw [rstrip_T hp]
    (((with_reducible refine st_l (by walk_at "cx") ?e1 ?e2 ?e3 ?_); (case e1 => exact rfl); (case e2 => exact rfl); (case e3 => exact rfl); intro _ _))
    ((with_reducible refine qnx (by assumption) ?_); (try clear hN hO))
    with_reducible refine wpAny_execs_nil ?_
    ((with_reducible refine qnx (by assumption) ?_); (try clear hN hO))
    ((with_reducible refine ex_gen ?_); intro Qn hN hO)
    with_reducible refine wpAny_Return_some ?_
    (refine nm_l (by walk_at "cx") rfl rfl rfl rfl rfl ?_)
    ((with_reducible refine qot (by assumption) ?e1 ?_); (case e1 => exact fun h => nomatch h); (try clear hN hO))
    dsimp only
    refine And.intro (Cx.to (by walk_at "cx")) ?_
    rw [if_neg hp0]
    exact ⟨_, rfl⟩
end PartA2

section PartA3
theorem splitroot_c {w A s k} {c : Nat} {r : List Nat} {t : Tok} (kin : (K2 w.params).In s.heap) (hA : Ok (k+2) A) (hc : c ≠ 47) (hlen : r.length ≤ 1000) :
    Spec w A 172 [.str (T (47 :: c :: r)) t] (fun v _ g' => ∃ a t1 t2 t3, v = .ref a ∧ g' a = some (tupO [.str (T []) t1, .str (T [47]) t2, .str (T (c :: r)) t3])) s := by
  refine enter (binds := [("p", .str _ t)]) kin hA rfl rfl rfl rfl rfl rfl rfl rfl rfl fun L s' C => ?_
  have hsz : (T (47 :: c :: r)).length ≤ sizeLine := by rw [T_len]; simp [sizeLine_eq]; lia
  ((with_reducible refine ex_gen ?_); intro Qn hN hO)
  ((with_reducible refine wpAny_Assign_Name ?_ ?e1); (case e1 => exact rfl))
  (with_reducible refine nm_call ?_)
  (refine nm_g (by walk_at "cx") rfl rfl rfl rfl rfl ?_)
  (refine' cu1 ?e1 ?e2 ?_); (case e1 => exact rfl); (case e2 => exact rfl)
  (refine nm_l (by walk_at "cx") rfl rfl rfl rfl rfl ?_)
  ((with_reducible refine And.intro ?k1 ?_); (case k1 => exact Cx.k (by walk_at "cx")))
  refine use (by assumption) (fspath_c (Cx.k (by assumption)) (hA.deeper _)) fun v g' s1 e q C1 => ?_
  subst q
  (((with_reducible refine st_l (by walk_at "cx") ?e1 ?e2 ?e3 ?_); (case e1 => exact rfl); (case e2 => exact rfl); (case e3 => exact rfl); intro _ _))
  ((with_reducible refine qnx (by assumption) ?_); (try clear hN hO))
  ((with_reducible refine ex_gen ?_); intro Qn hN hO)
  with_reducible refine wpAny_If ?_
  ((with_reducible refine isTrue_plain ?_ ?e1); (case e1 => exact rfl))
  (with_reducible refine nm_call ?_)
  (refine nm_b (by walk_at "cx") rfl rfl rfl rfl rfl rfl rfl ?_)
  (refine' cb2 ?e2 ?_); (case e2 => exact rfl)
  (refine nm_l (by walk_at "cx") rfl rfl rfl rfl rfl ?_)
  (refine nm_b (by walk_at "cx") rfl rfl rfl rfl rfl rfl rfl ?_)
  dsimp only
  refine useB (by assumption) (isi_bytes (Cx.k (by assumption)) (hA.deeper _)) fun v g' s1 e q C1 => ?_
  subst q
  with_reducible refine wpAny_truthy_bool ?_
  with_reducible refine it_f ?_
  ((with_reducible refine ex_gen ?_); intro Qn hN hO)
  ((with_reducible refine wpAny_Assign_Name ?_ ?e1); (case e1 => exact rfl))
  ((with_reducible refine' const_T ?e1 ?_); (case e1 => first | exact slash_T | exact dot_T | exact dots_T | exact empty_T | exact nl_T | exact crlf_T | exact dcrlf_T | exact a_T | exact da_T | exact ddd_T | exact ah_T | exact sdots_T))
  (((with_reducible refine st_l (by walk_at "cx") ?e1 ?e2 ?e3 ?_); (case e1 => exact rfl); (case e2 => exact rfl); (case e3 => exact rfl); intro _ _))
  ((with_reducible refine qnx (by assumption) ?_); (try clear hN hO))
  ((with_reducible refine ex_gen ?_); intro Qn hN hO)
  ((with_reducible refine wpAny_Assign_Name ?_ ?e1); (case e1 => exact rfl))
  ((with_reducible refine' const_T ?e1 ?_); (case e1 => first | exact slash_T | exact dot_T | exact dots_T | exact empty_T | exact nl_T | exact crlf_T | exact dcrlf_T | exact a_T | exact da_T | exact ddd_T | exact ah_T | exact sdots_T))
  (((with_reducible refine st_l (by walk_at "cx") ?e1 ?e2 ?e3 ?_); (case e1 => exact rfl); (case e2 => exact rfl); (case e3 => exact rfl); intro _ _))
  ((with_reducible refine qnx (by assumption) ?_); (try clear hN hO))
  with_reducible refine wpAny_execs_nil ?_
  ((with_reducible refine qnx (by assumption) ?_); (try clear hN hO))
  ((with_reducible refine ex_gen ?_); intro Qn hN hO)
  with_reducible refine wpAny_If ?_
  ((with_reducible refine wpAny_isTrue_Compare1 ?_ ?e1); (case e1 => with_unfolding_all rfl))
  refine sl_str ?e1 ?_
  case e1 => (intro _ _; rfl)
  (refine nm_l (by walk_at "cx") rfl rfl rfl rfl rfl ?_)
  (rw [evalPart_none]); with_reducible refine wpAny_pure ?_
  rw [evalPart_some]
  with_reducible refine wpAny_Constant_int ?_
  refine ⟨_, _, none, some (_, _), rfl, rfl, rfl, hsz, T [47], slice_first _, by walk_at "cx", fun t' s' C' => ?_⟩
  (refine nm_l (by walk_at "cx") rfl rfl rfl rfl rfl ?_)
  with_reducible refine PyProof.Rows.ne_str ?_
  with_reducible refine wpAny_truthy_bool ?_
  rw [T_bne, show ([47] != [47]) = false by decide]
  with_reducible refine it_f ?_
  ((with_reducible refine ex_gen ?_); intro Qn hN hO)
  with_reducible refine wpAny_If ?_
  with_reducible refine isTrue_or ?_
  ((with_reducible refine wpAny_isTrue_Compare1 ?_ ?e1); (case e1 => with_unfolding_all rfl))
  refine sl_str ?e1 ?_
  case e1 => (intro _ _; rfl)
  (refine nm_l (by walk_at "cx") rfl rfl rfl rfl rfl ?_)
  rw [evalPart_some]
  with_reducible refine wpAny_Constant_int ?_
  rw [evalPart_some]
  with_reducible refine wpAny_Constant_int ?_
  dsimp only
  refine ⟨_, _, some (_, _), some (_, _), rfl, rfl, rfl, hsz, T [c], slice_mid (47 :: c :: r) 1 2 (by simp) (by simp), by walk_at "cx", fun t' s' C' => ?_⟩
  (refine nm_l (by walk_at "cx") rfl rfl rfl rfl rfl ?_)
  with_reducible refine PyProof.Rows.ne_str ?_
  with_reducible refine wpAny_truthy_bool ?_
  rw [T_bne, show ([c] != [47]) = true by simp [hc]]
  with_reducible refine it_t ?_
  with_reducible refine it_t ?_
  ((with_reducible refine ex_gen ?_); intro Qn hN hO)
  with_reducible refine wpAny_Return_some ?_
  with_reducible refine tup_ ?_
  ((with_reducible refine wpAny_items_cons ?_ ?e1); (case e1 => exact rfl))
  (refine nm_l (by walk_at "cx") rfl rfl rfl rfl rfl ?_)
  ((with_reducible refine wpAny_items_cons ?_ ?e1); (case e1 => exact rfl))
  (refine nm_l (by walk_at "cx") rfl rfl rfl rfl rfl ?_)
  ((with_reducible refine wpAny_items_cons ?_ ?e1); (case e1 => exact rfl))
  refine sl_str ?e1 ?_
  case e1 => (intro _ _; rfl)
  (refine nm_l (by walk_at "cx") rfl rfl rfl rfl rfl ?_)
  rw [evalPart_some]
  with_reducible refine wpAny_Constant_int ?_
  (rw [evalPart_none]); with_reducible refine wpAny_pure ?_
  refine ⟨_, _, some (_, _), none, rfl, rfl, rfl, hsz, T (c :: r), slice_from (47 :: c :: r) 1 (by simp), by walk_at "cx", fun t' s' C' => ?_⟩
  with_reducible refine wpAny_items_nil ?_
  refine ⟨by ((show _ ≤ 16777216; simp; done)), by walk_at "cx", fun a s2 ha h0 C2 => ?_⟩
  ((with_reducible refine qot (by assumption) ?e1 ?_); (case e1 => exact fun h => nomatch h); (try clear hN hO))
  ((with_reducible refine qot (by assumption) ?e1 ?_); (case e1 => exact fun h => nomatch h); (try clear hN hO))
  ((with_reducible refine qot (by assumption) ?e1 ?_); (case e1 => exact fun h => nomatch h); (try clear hN hO))
  dsimp only
  refine And.intro (Cx.to (by walk_at "cx")) ?_
  exact ⟨a, _, _, _, rfl, C2.got⟩
end PartA3

section PartA4
theorem enterV {w : World} {A : Around} {s : Shared} {f : Addr} {args : List Value} {Post : Value → Vis → Vis → Prop} {fd : FuncData} {body : List Stmt} {xs : List Value} {binds : Value → List (Str × Value)} {oc od osl k}
    (kin : (K2 w.params).In s.heap) (hA : Ok k A)
    (hl : (K2 w.params).lookup f = some ⟨oc, od, .func fd, osl⟩)
    (hcd : codeIn (K2 w.params) fd.code fd.qualname = true)
    (hbody : fd.body = .stmts body) (hbind : bindArgs fd ⟨args, []⟩ = (newTuple xs >>= fun t => pure (binds t))) (hxs : xs.length ≤ sizeLine)
    (hcell : (fd.scope.names.all fun x => !(x.2 == .cell)) = true) (hloc : ∀ a, ((binds (.ref a)).all fun x => fd.scope.names.lookup x.1 == some .local) = true)
    (hco : fd.scope.isCoroutine = false) (hgen : fd.scope.isGenerator = false) (hk : fd.scope.kind = .function)
    (h : ∀ L s' a, vis s.heap a = none → Cx w s L (binds (.ref a)).reverse (put (vis s.heap) a (tupO xs)) [] s' →
      wpAny (model P w) (A.deeper (callEnv fd L f)) (execs body (callEnv fd L f)) (fun fl s' => To s s' ∧ Post (match fl with | .ret v => v | _ => .none) (vis s.heap) (vis s'.heap)) (fun _ _ => False) s') :
    Spec w A f args Post s := by
  intro R E hR
  refine wpAny_call (codeAny_call_function hA.room (kin _ _ hl) rfl hco hgen hbody (codeRec_of kin hcd) ?_)
  rw [hbind]
  refine wpAny_bind (wpAny_newTuple ?_ hxs)
  refine wpAny_pure ?_
  refine wpAny_newFunctionEnv (fun x hx e => ?_) (fun x hx => ?_) (fun h₀ hns₀ hsb₀ => ⟨((noLimit kin).push _).fresh _ hsb₀, codeAny_func ?_⟩) hk
  · have := List.all_eq_true.mp hcell x hx
    rw [e] at this; cases this
  · exact beq_iff_eq.mp (List.all_eq_true.mp (hloc _) x hx)
  · have hv : ∀ b o, s.heap.get? b = some o → h₀.get? b = some o := fun b o e =>
      have e1 := Heap.get?_push_of_some (tupO xs) e
      hsb₀.extBut b o (Nat.ne_of_lt (Heap.lt_size e1)) (Heap.get?_push_of_some _ e1)
    have hsz : (s.heap.push (tupO xs)).objs.size = s.heap.objs.size + 1 := Heap.size_push _ _
    have hL : s.heap.get? (s.heap.push (tupO xs)).objs.size = none := by
      cases q : s.heap.get? (s.heap.push (tupO xs)).objs.size with
      | none => rfl
      | some o => exact absurd (Heap.lt_size q) (Nat.not_lt.mpr (by rw [hsz]; exact Nat.le_succ _))
    refine wpAny_mono (h (s.heap.push (tupO xs)).objs.size { s with heap := h₀, toks := s.toks + (binds (.ref s.heap.objs.size)).length } s.heap.objs.size (vis_none (size_none _))
      ⟨kin, hv, hL, ⟨_, hns₀, fun x v e => e⟩, ?_, rfl, rfl, rfl, (fun _ h => nomatch h), List.nodup_nil⟩) (fun fl s' q => hR _ _ q.1 q.2) (fun _ _ q => q.elim)
    funext b
    by_cases hb : b = (s.heap.push (tupO xs)).objs.size
    · obtain ⟨o, es, ep, ho, hd, _⟩ := hns₀
      rw [hb]
      refine (vis_dict ho hd).trans ?_
      rw [put_ne _ _ (by rw [hsz]; exact Nat.succ_ne_self _), vis_none hL]
    · have e0 : vis h₀ b = vis (s.heap.push (tupO xs)) b := vis_congr ((hsb₀.2 b hb).trans (Heap.get?_push_ne _ _ _ hb))
      rw [e0]
      by_cases hb2 : b = s.heap.objs.size
      · rw [hb2, put_self]; exact vis_some (Heap.get?_push_size _ rfl) rfl
      · rw [put_ne _ _ hb2]; exact vis_congr (Heap.get?_push_ne _ _ _ hb2)
theorem join_c {w A s k} {p n : List Nat} {t u : Tok} (kin : (K2 w.params).In s.heap) (hA : Ok (k+3) A) (hp : p ≠ []) (hn : n ≠ []) (hn0 : 47 ∉ n) (hl : p.length + n.length ≤ 1000) :
    Spec w A 165 [.str (T p) t, .str (T n) u] (fun v _ _ => ∃ t', v = .str (T (if p.getLast? = some 47 then p ++ n else p ++ 47 :: n)) t') s := by
  refine enterV (binds := fun a => [("a", .str _ t), ("p", a)]) kin hA rfl rfl rfl rfl (by ((show _ ≤ 16777216; simp; done))) rfl (fun _ => rfl) rfl rfl rfl fun L s' a ha C => ?_
  ((with_reducible refine ex_gen ?_); intro Qn hN hO)
  ((with_reducible refine wpAny_Assign_Name ?_ ?e1); (case e1 => exact rfl))
  (with_reducible refine nm_call ?_)
  (refine nm_g (by walk_at "cx") rfl rfl rfl rfl rfl ?_)
  (refine' cu1 ?e1 ?e2 ?_); (case e1 => exact rfl); (case e2 => exact rfl)
  (refine nm_l (by walk_at "cx") rfl rfl rfl rfl rfl ?_)
  ((with_reducible refine And.intro ?k1 ?_); (case k1 => exact Cx.k (by walk_at "cx")))
  refine use (by assumption) (fspath_c (Cx.k (by assumption)) (hA.deeper _)) fun v g1 s1 e1 q C1 => ?_
  subst q
  (((with_reducible refine st_l (by walk_at "cx") ?e1 ?e2 ?e3 ?_); (case e1 => exact rfl); (case e2 => exact rfl); (case e3 => exact rfl); intro _ _))
  ((with_reducible refine qnx (by assumption) ?_); (try clear hN hO))
  ((with_reducible refine ex_gen ?_); intro Qn hN hO)
  ((with_reducible refine wpAny_Assign_Name ?_ ?e1); (case e1 => exact rfl))
  (with_reducible refine nm_call ?_)
  (refine nm_g (by walk_at "cx") rfl rfl rfl rfl rfl ?_)
  (refine' cu1 ?e1 ?e2 ?_); (case e1 => exact rfl); (case e2 => exact rfl)
  (refine nm_l (by walk_at "cx") rfl rfl rfl rfl rfl ?_)
  ((with_reducible refine And.intro ?k1 ?_); (case k1 => exact Cx.k (by walk_at "cx")))
  refine use (by assumption) (get_sep_c (Cx.k (by assumption)) (hA.deeper _)) fun v g2 s2 e2 q C2 => ?_
  obtain ⟨t', rfl⟩ := q
  (((with_reducible refine st_l (by walk_at "cx") ?e1 ?e2 ?e3 ?_); (case e1 => exact rfl); (case e2 => exact rfl); (case e3 => exact rfl); intro _ _))
  ((with_reducible refine qnx (by assumption) ?_); (try clear hN hO))
  ((with_reducible refine ex_gen ?_); intro Qn hN hO)
  ((with_reducible refine wpAny_Assign_Name ?_ ?e1); (case e1 => exact rfl))
  (refine nm_l (by walk_at "cx") rfl rfl rfl rfl rfl ?_)
  (((with_reducible refine st_l (by walk_at "cx") ?e1 ?e2 ?e3 ?_); (case e1 => exact rfl); (case e2 => exact rfl); (case e3 => exact rfl); intro _ _))
  ((with_reducible refine qnx (by assumption) ?_); (try clear hN hO))
  ((with_reducible refine ex_gen ?_); intro Qn hN hO)
  have ht := e2 _ _ (e1 _ _ (put_self _ a _))
  with_reducible refine wpAny_Try_except ?_
  ((with_reducible refine ex_gen ?_); intro Qn hN hO)
  ((with_reducible refine wpAny_For ?_ ?e1); (case e1 => (intro _; rfl)))
  (refine nm_l (by walk_at "cx") rfl rfl rfl rfl rfl ?_)
  have Cz := ‹Cx w _ _ _ _ _ _›
  have Cn := Cz.nrm [("path", .str (T p) t), ("sep", .str (T [47]) t')] ⟨rfl, rfl, trivial⟩
  refine piter_tup Cn ht fun it o s3 hpos C3 => ?_
  refine for_core (iters_tup (hA.deeper _).hd) (fun i l g => g a = some (tupO [.str (T n) u]) ∧ ∃ t2, l = ([("path", .str (T (if i = 0 then p else if p.getLast? = some 47 then p ++ n else p ++ 47 :: n)) t2), ("sep", .str (T [47]) t')] : List (Str × Value)))
    (fun i l g h => h.1) (fun i l g g' e h => ⟨e _ _ h.1, h.2⟩) ?_ ?_ ⟨ht, t, rfl⟩ hpos C3 (fun _ => rfl)
  · rintro i v l g o' s4 hi ⟨hg, t2, rfl⟩ hv C4
    have hi0 : i = 0 := by simp at hi; omega
    subst hi0
    have : v = .str (T n) u := by simpa using hv.symm
    subst this
    simp only [↓reduceIte] at C4
    with_reducible refine wpAny_assign_Name ?_
    (((with_reducible refine st_l (by walk_at "cx") ?e1 ?e2 ?e3 ?_); (case e1 => exact rfl); (case e2 => exact rfl); (case e3 => exact rfl); intro _ _))
    ((with_reducible refine ex_gen ?_); intro Qn hN hO)
    ((with_reducible refine wpAny_Assign_Name ?_ ?e1); (case e1 => exact rfl))
    (with_reducible refine nm_call ?_)
    (refine nm_g (by walk_at "cx") rfl rfl rfl rfl rfl ?_)
    (refine' cu1 ?e1 ?e2 ?_); (case e1 => exact rfl); (case e2 => exact rfl)
    (refine nm_l (by walk_at "cx") rfl rfl rfl rfl rfl ?_)
    ((with_reducible refine And.intro ?k1 ?_); (case k1 => exact Cx.k (by walk_at "cx")))
    refine use (by assumption) (fspath_c (Cx.k (by assumption)) (hA.deeper _)) fun v g5 s5 e5 q C5 => ?_
    subst q
    (((with_reducible refine st_l (by walk_at "cx") ?e1 ?e2 ?e3 ?_); (case e1 => exact rfl); (case e2 => exact rfl); (case e3 => exact rfl); intro _ _))
    ((with_reducible refine qnx (by assumption) ?_); (try clear hN hO))
    ((with_reducible refine ex_gen ?_); intro Qn hN hO)
    with_reducible refine wpAny_If ?_
    with_reducible refine isTrue_or ?_
    ((with_reducible refine isTrue_plain ?_ ?e1); (case e1 => exact rfl))
    (refine' Call_method1 ?e1 ?e2 ?e3 ?_); (case e1 => exact rfl); (case e2 => exact rfl); (case e3 => exact rfl)
    (refine nm_l (by walk_at "cx") rfl rfl rfl rfl rfl ?_)
    with_reducible refine SB.startswith ?_
    (refine nm_l (by walk_at "cx") rfl rfl rfl rfl rfl ?_)
    refine ⟨_, _, rfl, ?_⟩
    have h47 : n.head? ≠ some 47 := fun q => hn0 (List.mem_of_mem_head? q)
    rw [startswith_T, beq_eq_false_iff_ne.mpr h47]
    with_reducible refine wpAny_truthy_bool ?_
    with_reducible refine it_f ?_
    with_reducible refine isTrue_or ?_
    with_reducible refine isTrue_not ?_
    ((with_reducible refine isTrue_plain ?_ ?e1); (case e1 => exact rfl))
    (refine nm_l (by walk_at "cx") rfl rfl rfl rfl rfl ?_)
    refine tr_ne (by omega) hp ?_
    with_reducible refine it_nt ?_
    with_reducible refine isTrue_or_nil ?_
    with_reducible refine it_f ?_
    ((with_reducible refine ex_gen ?_); intro Qn hN hO)
    with_reducible refine wpAny_If ?_
    ((with_reducible refine isTrue_plain ?_ ?e1); (case e1 => exact rfl))
    (refine' Call_method1 ?e1 ?e2 ?e3 ?_); (case e1 => exact rfl); (case e2 => exact rfl); (case e3 => exact rfl)
    (refine nm_l (by walk_at "cx") rfl rfl rfl rfl rfl ?_)
    with_reducible refine SB.endswith ?_
    (refine nm_l (by walk_at "cx") rfl rfl rfl rfl rfl ?_)
    refine ⟨_, _, rfl, ?_⟩
    rw [endswith_T]
    by_cases hq : p.getLast? = some 47
    · rw [beq_iff_eq.mpr hq]
      with_reducible refine wpAny_truthy_bool ?_
      with_reducible refine it_t ?_
      ((with_reducible refine ex_gen ?_); intro Qn hN hO)
      (with_reducible refine wpAny_AugAssign_Name ?_)
      (refine ld_l (by walk_at "cx") rfl rfl rfl rfl ?_)
      (refine nm_l (by walk_at "cx") rfl rfl rfl rfl rfl ?_)
      with_reducible refine SB.iadd ?_ ?_
      rotate_left
      · rw [T_len, T_len]; simp [sizeLine_eq]; omega
      intro t7 k7
      rw [T_app]
      dsimp only
      (((with_reducible refine st_l (by walk_at "cx") ?e1 ?e2 ?e3 ?_); (case e1 => exact rfl); (case e2 => exact rfl); (case e3 => exact rfl); intro _ _))
      ((with_reducible refine qnx (by assumption) ?_); (try clear hN hO))
      with_reducible refine wpAny_execs_nil ?_
      ((with_reducible refine qnx (by assumption) ?_); (try clear hN hO))
      with_reducible refine wpAny_execs_nil ?_
      ((with_reducible refine qnx (by assumption) ?_); (try clear hN hO))
      with_reducible refine wpAny_execs_nil ?_
      dsimp only
      rename_i C8
      refine ⟨_, _, ⟨?_, t7, ?_⟩, C8.nrm [("path", .str (T (p ++ n)) t7), ("sep", .str (T [47]) t')] ⟨rfl, rfl, trivial⟩⟩
      · exact e5 _ _ hg
      · rw [if_neg (by decide), if_pos hq]
    · rw [beq_eq_false_iff_ne.mpr hq]
      with_reducible refine wpAny_truthy_bool ?_
      with_reducible refine it_f ?_
      ((with_reducible refine ex_gen ?_); intro Qn hN hO)
      (with_reducible refine wpAny_AugAssign_Name ?_)
      (refine ld_l (by walk_at "cx") rfl rfl rfl rfl ?_)
      with_reducible refine wpAny_BinOp ?_
      (refine nm_l (by walk_at "cx") rfl rfl rfl rfl rfl ?_)
      (refine nm_l (by walk_at "cx") rfl rfl rfl rfl rfl ?_)
      with_reducible refine SB.add ?_ ?_
      rotate_left
      · rw [T_len, T_len]; simp [sizeLine_eq]; omega
      intro t6 k6
      rw [T_app]
      with_reducible refine SB.iadd ?_ ?_
      rotate_left
      · rw [T_len, T_len]; simp [sizeLine_eq]; omega
      intro t7 k7
      rw [T_app]
      dsimp only
      (((with_reducible refine st_l (by walk_at "cx") ?e1 ?e2 ?e3 ?_); (case e1 => exact rfl); (case e2 => exact rfl); (case e3 => exact rfl); intro _ _))
      ((with_reducible refine qnx (by assumption) ?_); (try clear hN hO))
      with_reducible refine wpAny_execs_nil ?_
      ((with_reducible refine qnx (by assumption) ?_); (try clear hN hO))
      with_reducible refine wpAny_execs_nil ?_
      ((with_reducible refine qnx (by assumption) ?_); (try clear hN hO))
      with_reducible refine wpAny_execs_nil ?_
      dsimp only
      rename_i C8
      refine ⟨_, _, ⟨?_, t7, ?_⟩, C8.nrm [("path", .str (T (p ++ ([47] ++ n))) t7), ("sep", .str (T [47]) t')] ⟨rfl, rfl, trivial⟩⟩
      · exact e5 _ _ hg
      · rw [if_neg (by decide), if_neg hq]; rfl
  · rintro l g s4 ⟨hg, t2, rfl⟩ C4
    ((with_reducible refine qnx (by assumption) ?_); (try clear hN hO))
    with_reducible refine wpAny_execs_nil ?_
    with_reducible refine wpAny_execs_nil ?_
    ((with_reducible refine qnx (by assumption) ?_); (try clear hN hO))
    ((with_reducible refine ex_gen ?_); intro Qn hN hO)
    with_reducible refine wpAny_Return_some ?_
    (refine nm_l (by walk_at "cx") rfl rfl rfl rfl rfl ?_)
    ((with_reducible refine qot (by assumption) ?e1 ?_); (case e1 => exact fun h => nomatch h); (try clear hN hO))
    dsimp only
    refine And.intro (Cx.to (by walk_at "cx")) ?_
    exact ⟨_, rfl⟩
end PartA4

section PartA5
noncomputable def nst (acc : List (List Nat)) (c : List Nat) : List (List Nat) :=
  if c = [] ∨ c = [46] then acc else if c = [46, 46] then acc.dropLast else acc ++ [c]
theorem nst_dots : ∀ (ps acc : List (List Nat)), (∀ c ∈ acc, c ≠ [46, 46]) → ∀ c ∈ ps.foldl nst acc, c ≠ [46, 46]
  | [], _, h => h
  | p :: r, acc, h => by
    refine nst_dots r _ fun c hc => ?_
    unfold nst at hc
    split at hc
    · exact h c hc
    · split at hc
      · exact h c (List.dropLast_subset _ hc)
      · rename_i h1 h2
        rcases List.mem_append.mp hc with hc | hc
        · exact h c hc
        · rw [List.mem_singleton.mp hc]; exact h2
theorem nst_len : ∀ (ps acc : List (List Nat)), (ps.foldl nst acc).length ≤ acc.length + ps.length
  | [], _ => by simp
  | p :: r, acc => by
    have := nst_len r (nst acc p)
    have h2 : (nst acc p).length ≤ acc.length + 1 := by
      unfold nst; split
      · lia
      · split
        · simp; lia
        · simp
    simp only [List.foldl_cons, List.length_cons]; lia
theorem spl_len (c : Nat) : ∀ l, (spl c l).length ≤ l.length + 1
  | [] => by simp [spl]
  | x :: r => by
    have := spl_len c r
    unfold spl
    split
    · simp; lia
    · split
      · rename_i q; rw [q] at this; simp at this ⊢; lia
      · simp
theorem spl_part (c : Nat) : ∀ l, ∀ p ∈ spl c l, p.length ≤ l.length
  | [], p, h => by simp [spl] at h; simp [h]
  | x :: r, p, h => by
    have ih := spl_part c r
    unfold spl at h
    split at h
    · rcases List.mem_cons.mp h with rfl | h
      · simp
      · have := ih p h; simp; lia
    · split at h
      · rename_i p' ps q
        rcases List.mem_cons.mp h with rfl | h
        · have := ih p' (by rw [q]; exact .head _); simp; lia
        · have := ih p (by rw [q]; exact .tail _ h); simp; lia
      · simp at h; simp [h]
theorem nst_mem : ∀ (ps acc : List (List Nat)), ∀ c ∈ ps.foldl nst acc, c ∈ acc ∨ c ∈ ps
  | [], _, c, h => .inl h
  | p :: r, acc, c, h => by
    rcases nst_mem r _ c h with h | h
    · unfold nst at h
      split at h
      · exact .inl h
      · split at h
        · exact .inl (List.dropLast_subset _ h)
        · rcases List.mem_append.mp h with h | h
          · exact .inl h
          · exact .inr (by rw [List.mem_singleton.mp h]; exact .head _)
    · exact .inr (.tail _ h)
theorem normpath_c {w A s k} {q : List Nat} {t : Tok} (kin : (K2 w.params).In s.heap) (hA : Ok (k+4) A) (hl : q.length ≤ 90) :
    Spec w A 193 [.str (T (47 :: 46 :: q)) t] (fun v _ _ => ∃ t', v = .str (T (47 :: inter 47 ((spl 47 (46 :: q)).foldl nst []))) t') s := by
  refine enter (binds := [("path", .str _ t)]) kin hA rfl rfl rfl rfl rfl rfl rfl rfl rfl fun L s' C => ?_
  ((with_reducible refine ex_gen ?_); intro Qn hN hO)
  ((with_reducible refine wpAny_Assign_Name ?_ ?e1); (case e1 => exact rfl))
  (with_reducible refine nm_call ?_)
  (refine nm_g (by walk_at "cx") rfl rfl rfl rfl rfl ?_)
  (refine' cu1 ?e1 ?e2 ?_); (case e1 => exact rfl); (case e2 => exact rfl)
  (refine nm_l (by walk_at "cx") rfl rfl rfl rfl rfl ?_)
  ((with_reducible refine And.intro ?k1 ?_); (case k1 => exact Cx.k (by walk_at "cx")))
  refine use (by assumption) (fspath_c (Cx.k (by assumption)) (hA.deeper _)) fun v g1 s1 e1 q C1 => ?_
  subst q
  (((with_reducible refine st_l (by walk_at "cx") ?e1 ?e2 ?e3 ?_); (case e1 => exact rfl); (case e2 => exact rfl); (case e3 => exact rfl); intro _ _))
  ((with_reducible refine qnx (by assumption) ?_); (try clear hN hO))
  ((with_reducible refine ex_gen ?_); intro Qn hN hO)
  with_reducible refine wpAny_If ?_
  ((with_reducible refine isTrue_plain ?_ ?e1); (case e1 => exact rfl))
  (with_reducible refine nm_call ?_)
  (refine nm_b (by walk_at "cx") rfl rfl rfl rfl rfl rfl rfl ?_)
  (refine' cb2 ?e2 ?_); (case e2 => exact rfl)
  (refine nm_l (by walk_at "cx") rfl rfl rfl rfl rfl ?_)
  (refine nm_b (by walk_at "cx") rfl rfl rfl rfl rfl rfl rfl ?_)
  dsimp only
  refine useB (by assumption) (isi_bytes (Cx.k (by assumption)) (hA.deeper _)) fun v g2 s2 e2 q C2 => ?_
  subst q
  with_reducible refine wpAny_truthy_bool ?_
  with_reducible refine it_f ?_
  ((with_reducible refine ex_gen ?_); intro Qn hN hO)
  ((with_reducible refine wpAny_Assign_Name ?_ ?e1); (case e1 => exact rfl))
  ((with_reducible refine' const_T ?e1 ?_); (case e1 => first | exact slash_T | exact dot_T | exact dots_T | exact empty_T | exact nl_T | exact crlf_T | exact dcrlf_T | exact a_T | exact da_T | exact ddd_T | exact ah_T | exact sdots_T))
  (((with_reducible refine st_l (by walk_at "cx") ?e1 ?e2 ?e3 ?_); (case e1 => exact rfl); (case e2 => exact rfl); (case e3 => exact rfl); intro _ _))
  ((with_reducible refine qnx (by assumption) ?_); (try clear hN hO))
  ((with_reducible refine ex_gen ?_); intro Qn hN hO)
  ((with_reducible refine wpAny_Assign_Name ?_ ?e1); (case e1 => exact rfl))
  ((with_reducible refine' const_T ?e1 ?_); (case e1 => first | exact slash_T | exact dot_T | exact dots_T | exact empty_T | exact nl_T | exact crlf_T | exact dcrlf_T | exact a_T | exact da_T | exact ddd_T | exact ah_T | exact sdots_T))
  (((with_reducible refine st_l (by walk_at "cx") ?e1 ?e2 ?e3 ?_); (case e1 => exact rfl); (case e2 => exact rfl); (case e3 => exact rfl); intro _ _))
  ((with_reducible refine qnx (by assumption) ?_); (try clear hN hO))
  ((with_reducible refine ex_gen ?_); intro Qn hN hO)
  ((with_reducible refine wpAny_Assign_Name ?_ ?e1); (case e1 => exact rfl))
  ((with_reducible refine' const_T ?e1 ?_); (case e1 => first | exact slash_T | exact dot_T | exact dots_T | exact empty_T | exact nl_T | exact crlf_T | exact dcrlf_T | exact a_T | exact da_T | exact ddd_T | exact ah_T | exact sdots_T))
  (((with_reducible refine st_l (by walk_at "cx") ?e1 ?e2 ?e3 ?_); (case e1 => exact rfl); (case e2 => exact rfl); (case e3 => exact rfl); intro _ _))
  ((with_reducible refine qnx (by assumption) ?_); (try clear hN hO))
  with_reducible refine wpAny_execs_nil ?_
  ((with_reducible refine qnx (by assumption) ?_); (try clear hN hO))
  ((with_reducible refine ex_gen ?_); intro Qn hN hO)
  with_reducible refine wpAny_If ?_
  with_reducible refine isTrue_not ?_
  ((with_reducible refine isTrue_plain ?_ ?e1); (case e1 => exact rfl))
  (refine nm_l (by walk_at "cx") rfl rfl rfl rfl rfl ?_)
  refine tr_ne (by simp; lia) (by simp) ?_
  with_reducible refine it_nt ?_
  with_reducible refine wpAny_execs_nil ?_
  ((with_reducible refine qnx (by assumption) ?_); (try clear hN hO))
  ((with_reducible refine ex_gen ?_); intro Qn hN hO)
  ((with_reducible refine Assign_Tuple ?_ ?e1 ?e2); (case e1 => exact rfl); (case e2 => exact rfl))
  (with_reducible refine nm_call ?_)
  (refine nm_g (by walk_at "cx") rfl rfl rfl rfl rfl ?_)
  (refine' cu1 ?e1 ?e2 ?_); (case e1 => exact rfl); (case e2 => exact rfl)
  (refine nm_l (by walk_at "cx") rfl rfl rfl rfl rfl ?_)
  ((with_reducible refine And.intro ?k1 ?_); (case k1 => exact Cx.k (by walk_at "cx")))
  refine use (by walk_at "cx") (splitroot_c (Cx.k (by walk_at "cx")) (hA.deeper _) (by decide) (by lia)) fun v g3 s3 e3 q C3 => ?_
  obtain ⟨a, t1, t2, t3, rfl, ha⟩ := q
  refine unp3 C3 ha (hA.deeper _).hd rfl fun g4 s4 e4 C4 => ?_
  with_reducible refine wpAny_assign_Name ?_
  (((with_reducible refine st_l (by walk_at "cx") ?e1 ?e2 ?e3 ?_); (case e1 => exact rfl); (case e2 => exact rfl); (case e3 => exact rfl); intro _ _))
  with_reducible refine wpAny_assign_Name ?_
  (((with_reducible refine st_l (by walk_at "cx") ?e1 ?e2 ?e3 ?_); (case e1 => exact rfl); (case e2 => exact rfl); (case e3 => exact rfl); intro _ _))
  with_reducible refine wpAny_assign_Name ?_
  (((with_reducible refine st_l (by walk_at "cx") ?e1 ?e2 ?e3 ?_); (case e1 => exact rfl); (case e2 => exact rfl); (case e3 => exact rfl); intro _ _))
  ((with_reducible refine qnx (by assumption) ?_); (try clear hN hO))
  ((with_reducible refine ex_gen ?_); intro Qn hN hO)
  ((with_reducible refine wpAny_Assign_Name ?_ ?e1); (case e1 => exact rfl))
  (refine' Call_method1 ?e1 ?e2 ?e3 ?_); (case e1 => exact rfl); (case e2 => exact rfl); (case e3 => exact rfl)
  (refine nm_l (by walk_at "cx") rfl rfl rfl rfl rfl ?_)
  with_reducible refine m_split (c := 47) ?_ ?_
  · simp; lia
  (refine nm_l (by walk_at "cx") rfl rfl rfl rfl rfl ?_)
  refine ⟨_, rfl, by walk_at "cx", fun D vs s5 hvs hD hD0 C5 => ?_⟩
  (((with_reducible refine st_l (by walk_at "cx") ?e1 ?e2 ?e3 ?_); (case e1 => exact rfl); (case e2 => exact rfl); (case e3 => exact rfl); intro _ _))
  ((with_reducible refine qnx (by assumption) ?_); (try clear hN hO))
  ((with_reducible refine ex_gen ?_); intro Qn hN hO)
  ((with_reducible refine wpAny_Assign_Name ?_ ?e1); (case e1 => exact rfl))
  with_reducible refine lst_ ?_
  with_reducible refine wpAny_items_nil ?_
  refine ⟨by (decide), by walk_at "cx", fun nc s6 hnc hnc0 C6 => ?_⟩
  (((with_reducible refine st_l (by walk_at "cx") ?e1 ?e2 ?e3 ?_); (case e1 => exact rfl); (case e2 => exact rfl); (case e3 => exact rfl); intro _ _))
  ((with_reducible refine qnx (by assumption) ?_); (try clear hN hO))
  ((with_reducible refine ex_gen ?_); intro Qn hN hO)
  ((with_reducible refine wpAny_For ?_ ?e1); (case e1 => (intro _; rfl)))
  (refine nm_l (by walk_at "cx") rfl rfl rfl rfl rfl ?_)
  have Cz := ‹Cx w _ _ _ _ _ _›
  have hDn : D ≠ nc := Ext.ne (put_self _ D _) hnc
  have hD6 : ∀ o, (put (put g4 D (lstO vs 0)) nc o) D = some (lstO vs 0) := fun o => by rw [put_ne _ _ hDn, put_self]
  obtain ⟨ps, hps⟩ : ∃ ps, ps = spl 47 (46 :: q) := ⟨_, rfl⟩
  rw [← hps] at hvs
  have hpl : ps.length ≤ 92 := by rw [hps]; have := spl_len 47 (46 :: q); simp at this; lia
  have Cn := Cz.nrm [("new_comps", .ref nc), ("dot", .str (T [46]) _), ("dotdot", .str (T [46, 46]) _), ("initial_slashes", .str (T [47]) t2), ("sep", .str (T [47]) _)] ⟨rfl, rfl, rfl, rfl, rfl, trivial⟩
  refine piter_list Cn (hD6 _) fun it o s7 hpos C7 => ?_
  refine for_core (iters_list (n := 0) (hA.deeper _).hd) (fun i l g => l = ([("new_comps", .ref nc), ("dot", .str (T [46]) _), ("dotdot", .str (T [46, 46]) _), ("initial_slashes", .str (T [47]) t2), ("sep", .str (T [47]) _)] : List (Str × Value)) ∧
      g D = some (lstO vs 0) ∧ ∃ ws m, IsStrs ws ((ps.take i).foldl nst []) ∧ g nc = some (lstO ws m))
    (fun i l g h => h.2.1) (fun i l g g' e h => ⟨h.1, e _ _ h.2.1, let ⟨ws, m, h1, h2⟩ := h.2.2; ⟨ws, m, h1, e _ _ h2⟩⟩) ?_ ?_ ⟨rfl, hD6 _, [], 0, .nil, put_self _ _ _⟩ hpos C7 (fun _ => rfl)
  · rintro i v l g o' s8 hi ⟨rfl, hgD, ws, m, hws, hgn⟩ hv C8
    have hi' : i < ps.length := by rw [← hvs.length]; exact hi
    obtain ⟨t8, e8⟩ := hvs.get (i := i) (x := ps[i]) (by simp [hi'])
    rw [e8] at hv
    obtain rfl := Option.some.inj hv
    have hstep : (ps.take (i + 1)).foldl nst [] = nst ((ps.take i).foldl nst []) ps[i] := by rw [List.take_succ_eq_append_getElem hi', List.foldl_append]; rfl
    have hlast : ∀ c ∈ (ps.take i).foldl nst [], c ≠ [46, 46] := nst_dots _ [] (fun _ h => nomatch h)
    have hwl : ws.length ≤ 1000 := by
      rw [hws.length]
      have := nst_len (ps.take i) []
      simp at this; lia
    have hpt : ps[i].length ≤ 1000 := by
      have := spl_part 47 (46 :: q) ps[i] (by rw [← hps]; exact List.getElem_mem _)
      simp at this; lia
    generalize ps[i] = c at *
    generalize hacc : (ps.take i).foldl nst [] = acc at *
    with_reducible refine wpAny_assign_Name ?_
    (((with_reducible refine st_l (by walk_at "cx") ?e1 ?e2 ?e3 ?_); (case e1 => exact rfl); (case e2 => exact rfl); (case e3 => exact rfl); intro _ _))
    ((with_reducible refine ex_gen ?_); intro Qn hN hO)
    with_reducible refine wpAny_If ?_
    with_reducible refine isTrue_or ?_
    with_reducible refine isTrue_not ?_
    ((with_reducible refine isTrue_plain ?_ ?e1); (case e1 => exact rfl))
    (refine nm_l (by walk_at "cx") rfl rfl rfl rfl rfl ?_)
    refine tr_T (by lia) ?_
    by_cases hc : c = []
    · subst hc
      refine it_of rfl ?_
      with_reducible refine it_t ?_
      ((with_reducible refine ex_gen ?_); intro Qn hN hO)
      with_reducible refine wpAny_Continue ?_
      ((with_reducible refine qot (by assumption) ?e1 ?_); (case e1 => exact fun h => nomatch h); (try clear hN hO))
      ((with_reducible refine qot (by assumption) ?e1 ?_); (case e1 => exact fun h => nomatch h); (try clear hN hO))
      dsimp only
      rename_i C9
      refine ⟨_, _, ⟨rfl, hgD, ws, m, ?_, hgn⟩, Cx.tok (C9.tl ⟨rfl, rfl, rfl, rfl, rfl, trivial⟩) _⟩
      rw [hstep]; unfold nst; rw [if_pos (.inl rfl)]; exact hws
    · have hce : c.isEmpty = false := by
        cases c with
        | nil => exact absurd rfl hc
        | cons _ _ => rfl
      refine it_no (by rw [hce]; rfl) ?_
      with_reducible refine isTrue_or ?_
      ((with_reducible refine wpAny_isTrue_Compare1 ?_ ?e1); (case e1 => with_unfolding_all rfl))
      (refine nm_l (by walk_at "cx") rfl rfl rfl rfl rfl ?_)
      (refine nm_l (by walk_at "cx") rfl rfl rfl rfl rfl ?_)
      with_reducible refine PyProof.Rows.eq_str ?_
      with_reducible refine wpAny_truthy_bool ?_
      rw [T_beq]
      by_cases hc1 : c = [46]
      · subst hc1
        refine it_of rfl ?_
        with_reducible refine it_t ?_
        ((with_reducible refine ex_gen ?_); intro Qn hN hO)
        with_reducible refine wpAny_Continue ?_
        ((with_reducible refine qot (by assumption) ?e1 ?_); (case e1 => exact fun h => nomatch h); (try clear hN hO))
        ((with_reducible refine qot (by assumption) ?e1 ?_); (case e1 => exact fun h => nomatch h); (try clear hN hO))
        dsimp only
        rename_i C9
        refine ⟨_, _, ⟨rfl, hgD, ws, m, ?_, hgn⟩, Cx.tok (C9.tl ⟨rfl, rfl, rfl, rfl, rfl, trivial⟩) _⟩
        rw [hstep]; unfold nst; rw [if_pos (.inr rfl)]; exact hws
      · refine it_no (beq_eq_false_iff_ne.mpr hc1) ?_
        with_reducible refine isTrue_or_nil ?_
        with_reducible refine it_f ?_
        with_reducible refine wpAny_execs_nil ?_
        ((with_reducible refine qnx (by assumption) ?_); (try clear hN hO))
        ((with_reducible refine ex_gen ?_); intro Qn hN hO)
        with_reducible refine wpAny_If ?_
        with_reducible refine isTrue_or ?_
        ((with_reducible refine wpAny_isTrue_Compare1 ?_ ?e1); (case e1 => with_unfolding_all rfl))
        (refine nm_l (by walk_at "cx") rfl rfl rfl rfl rfl ?_)
        (refine nm_l (by walk_at "cx") rfl rfl rfl rfl rfl ?_)
        with_reducible refine PyProof.Rows.ne_str ?_
        with_reducible refine wpAny_truthy_bool ?_
        rw [T_bne]
        by_cases hc2 : c = [46, 46]
        · subst hc2
          refine it_no rfl ?_
          with_reducible refine isTrue_or ?_
          with_reducible refine isTrue_and ?_
          with_reducible refine isTrue_not ?_
          ((with_reducible refine isTrue_plain ?_ ?e1); (case e1 => exact rfl))
          (refine nm_l (by walk_at "cx") rfl rfl rfl rfl rfl ?_)
          refine tr_ne (by simp) (by simp) ?_
          with_reducible refine it_nt ?_
          with_reducible refine it_f ?_
          with_reducible refine isTrue_or ?_
          with_reducible refine isTrue_and ?_
          ((with_reducible refine isTrue_plain ?_ ?e1); (case e1 => exact rfl))
          dsimp only
          (refine nm_l (by walk_at "cx") rfl rfl rfl rfl rfl ?_)
          refine tr_list (by walk_at "cx") hgn (by lia) ?_
          dsimp only
          rcases List.eq_nil_or_concat acc with h0 | ⟨acc', z, h0⟩
          · subst h0
            obtain ⟨ll, rfl, hll⟩ := hws
            obtain rfl : ll = [] := by simpa using hll
            refine it_no rfl ?_
            with_reducible refine it_f ?_
            with_reducible refine isTrue_or_nil ?_
            with_reducible refine it_f ?_
            ((with_reducible refine ex_gen ?_); intro Qn hN hO)
            with_reducible refine wpAny_If ?_
            ((with_reducible refine isTrue_plain ?_ ?e1); (case e1 => exact rfl))
            (refine nm_l (by walk_at "cx") rfl rfl rfl rfl rfl ?_)
            refine tr_list (by walk_at "cx") hgn (by lia) ?_
            refine it_no rfl ?_
            with_reducible refine wpAny_execs_nil ?_
            ((with_reducible refine qnx (by assumption) ?_); (try clear hN hO))
            with_reducible refine wpAny_execs_nil ?_
            ((with_reducible refine qnx (by assumption) ?_); (try clear hN hO))
            with_reducible refine wpAny_execs_nil ?_
            dsimp only
            rename_i C9
            refine ⟨_, _, ⟨rfl, hgD, [], m, ?_, hgn⟩, Cx.tok (C9.tl ⟨rfl, rfl, rfl, rfl, rfl, trivial⟩) _⟩
            rw [hstep]; exact .nil
          · rw [List.concat_eq_append] at h0
            subst h0
            obtain ⟨tz, ws', rfl, hws'⟩ := hws.snoc_inv
            refine it_of (by simp) ?_
            with_reducible refine isTrue_and ?_
            ((with_reducible refine wpAny_isTrue_Compare1 ?_ ?e1); (case e1 => with_unfolding_all rfl))
            ((with_reducible refine Subscript_UnaryOp ?_ ?e1); (case e1 => (intro _ _; rfl)))
            (refine nm_l (by walk_at "cx") rfl rfl rfl rfl rfl ?_)
            with_reducible refine UnaryOp_ ?_
            with_reducible refine wpAny_Constant_int ?_
            with_reducible refine neg_int ?_
            dsimp only
            refine item_last (by walk_at "cx") hgn ?_
            (refine nm_l (by walk_at "cx") rfl rfl rfl rfl rfl ?_)
            with_reducible refine PyProof.Rows.eq_str ?_
            with_reducible refine wpAny_truthy_bool ?_
            rw [T_beq]
            refine it_no (beq_eq_false_iff_ne.mpr (hlast z (by simp))) ?_
            with_reducible refine it_f ?_
            with_reducible refine isTrue_or_nil ?_
            with_reducible refine it_f ?_
            ((with_reducible refine ex_gen ?_); intro Qn hN hO)
            with_reducible refine wpAny_If ?_
            ((with_reducible refine isTrue_plain ?_ ?e1); (case e1 => exact rfl))
            (refine nm_l (by walk_at "cx") rfl rfl rfl rfl rfl ?_)
            refine tr_list (by walk_at "cx") hgn (by lia) ?_
            refine it_of (by simp) ?_
            ((with_reducible refine ex_gen ?_); intro Qn hN hO)
            ((with_reducible refine wpAny_Expr ?_ ?e1 ?e2); (case e1 => exact rfl); (case e2 => exact rfl))
            (refine' Call_method0 ?e1 ?e3 ?_); (case e1 => exact rfl); (case e3 => exact rfl)
            dsimp only
            (refine nm_l (by walk_at "cx") rfl rfl rfl rfl rfl ?_)
            with_reducible refine m_pop (by walk_at "cx") hgn (by simp at hwl; lia) hnc0 fun s9 C9 => ?_
            ((with_reducible refine qnx (by assumption) ?_); (try clear hN hO))
            with_reducible refine wpAny_execs_nil ?_
            ((with_reducible refine qnx (by assumption) ?_); (try clear hN hO))
            with_reducible refine wpAny_execs_nil ?_
            ((with_reducible refine qnx (by assumption) ?_); (try clear hN hO))
            with_reducible refine wpAny_execs_nil ?_
            dsimp only
            refine ⟨_, _, ⟨rfl, ?_, ws', m + 1, ?_, put_self _ _ _⟩, C9.tl ⟨rfl, rfl, rfl, rfl, rfl, trivial⟩⟩
            · rw [put_ne _ _ hDn]; exact hgD
            · rw [hstep]; unfold nst; rw [if_neg (by simp), if_pos rfl, List.dropLast_concat]; exact hws'
        · refine it_of (bne_iff_ne.mpr hc2) ?_
          with_reducible refine it_t ?_
          ((with_reducible refine ex_gen ?_); intro Qn hN hO)
          ((with_reducible refine wpAny_Expr ?_ ?e1 ?e2); (case e1 => exact rfl); (case e2 => exact rfl))
          (refine' Call_method1 ?e1 ?e2 ?e3 ?_); (case e1 => exact rfl); (case e2 => exact rfl); (case e3 => exact rfl)
          (refine nm_l (by walk_at "cx") rfl rfl rfl rfl rfl ?_)
          with_reducible refine m_append (by walk_at "cx") hgn ?_
          (refine nm_l (by walk_at "cx") rfl rfl rfl rfl rfl ?_)
          refine ⟨by walk_at "cx", hgn, by lia, hnc0, fun s9 C9 => ?_⟩
          ((with_reducible refine qnx (by assumption) ?_); (try clear hN hO))
          with_reducible refine wpAny_execs_nil ?_
          ((with_reducible refine qnx (by assumption) ?_); (try clear hN hO))
          with_reducible refine wpAny_execs_nil ?_
          dsimp only
          refine ⟨_, _, ⟨rfl, ?_, ws ++ [.str (T c) t8], m + 1, ?_, put_self _ _ _⟩, C9.tl ⟨rfl, rfl, rfl, rfl, rfl, trivial⟩⟩
          · rw [put_ne _ _ hDn]; exact hgD
          · rw [hstep]; unfold nst; rw [if_neg (by simp [hc, hc1]), if_neg hc2]; exact hws.snoc
  · rintro l g s8 ⟨rfl, hgD, ws, m, hws, hgn⟩ C8
    rw [hvs.length, List.take_length] at hws
    ((with_reducible refine qnx (by assumption) ?_); (try clear hN hO))
    ((with_reducible refine ex_gen ?_); intro Qn hN hO)
    ((with_reducible refine wpAny_Assign_Name ?_ ?e1); (case e1 => exact rfl))
    (refine nm_l (by walk_at "cx") rfl rfl rfl rfl rfl ?_)
    (((with_reducible refine st_l (by walk_at "cx") ?e1 ?e2 ?e3 ?_); (case e1 => exact rfl); (case e2 => exact rfl); (case e3 => exact rfl); intro _ _))
    ((with_reducible refine qnx (by assumption) ?_); (try clear hN hO))
    ((with_reducible refine ex_gen ?_); intro Qn hN hO)
    ((with_reducible refine wpAny_Assign_Name ?_ ?e1); (case e1 => exact rfl))
    with_reducible refine wpAny_BinOp ?_
    (refine nm_l (by walk_at "cx") rfl rfl rfl rfl rfl ?_)
    (refine' Call_method1 ?e1 ?e2 ?e3 ?_); (case e1 => exact rfl); (case e2 => exact rfl); (case e3 => exact rfl)
    (refine nm_l (by walk_at "cx") rfl rfl rfl rfl rfl ?_)
    with_reducible refine m_join ?_
    (refine nm_l (by walk_at "cx") rfl rfl rfl rfl rfl ?_)
    have hil : (inter 47 (ps.foldl nst [])).length ≤ 92 * 93 := by
      refine Nat.le_trans (inter_le 47 92 fun x hx => ?_) (Nat.mul_le_mul_right 93 ?_)
      · rcases nst_mem ps [] x hx with h | h
        · cases h
        · rw [hps] at h
          have := spl_part 47 (46 :: q) x h
          simp at this; lia
      · have := nst_len ps []
        simp at this; lia
    refine ⟨nc, ws, m, _, rfl, hws, fun x hx => ?_, ?_, by walk_at "cx", hgn, fun t' s' C' => ?_⟩
    · rcases nst_mem ps [] x hx with h | h
      · cases h
      · rw [hps] at h
        have := spl_part 47 (46 :: q) x h
        simp at this; lia
    · have := nst_len ps []
      simp at this; lia
    with_reducible refine SB.add ?_ ?_
    rotate_left
    · rw [T_len, T_len]; rw [sizeLine_eq]; simp; lia
    intro t9 k9
    rw [T_app]
    (((with_reducible refine st_l (by walk_at "cx") ?e1 ?e2 ?e3 ?_); (case e1 => exact rfl); (case e2 => exact rfl); (case e3 => exact rfl); intro _ _))
    ((with_reducible refine qnx (by assumption) ?_); (try clear hN hO))
    ((with_reducible refine ex_gen ?_); intro Qn hN hO)
    with_reducible refine wpAny_Return_some ?_
    with_reducible refine BoolOp_or ?_
    (refine nm_l (by walk_at "cx") rfl rfl rfl rfl rfl ?_)
    refine tr_ne ?_ (by simp) ?_
    · simp; lia
    with_reducible refine it_t ?_
    ((with_reducible refine qot (by assumption) ?e1 ?_); (case e1 => exact fun h => nomatch h); (try clear hN hO))
    dsimp only
    refine And.intro (Cx.to (by walk_at "cx")) ?_
    subst hps
    exact ⟨_, rfl⟩
end PartA5

section PartRe2
open PySem.Builtin PySem.Builtin.Re in
theorem drive_wp {M : Model} {A : Around} {E : Value → Shared → Prop} {s : Shared} {Q : Sre.M → Shared → Prop} : ∀ (k n : Nat) (m : Sre.M), k < n → (it (4 * (k + 1)) m).outcome.isSome = true → Q (it (4 * (k + 1)) m) s → wpAny M A (reDrive n m) Q E s
  | k, 0, m, h, _, _ => by lia
  | k, n + 1, m, h, ho, hq => by
    unfold reDrive
    dsimp only
    rw [show reTurnSteps = 4 from rfl, runFor_it]
    have ea : it (4 * (k + 1)) m = it (4 * k) (it 4 m) := by rw [← it_add]; congr 1; lia
    by_cases h4 : (it 4 m).outcome.isSome = true
    · rw [if_pos h4]
      refine wpAny_pure ?_
      rw [ea, it_done h4] at hq; exact hq
    · rw [if_neg h4]
      refine wpAny_bind (wpAny_rule ?_)
      cases k with
      | zero => exact absurd ho h4
      | succ k => exact drive_wp k n _ (by lia) (by rw [ea] at ho; exact ho) (by rw [ea] at hq; exact hq)
noncomputable def F (c : Nat → Bool) (r : Nat → String) : Nat → PUnit → Sem (ForInStep PUnit) := fun i _ => do
  if c i then
    rule (r i)
  pure (ForInStep.yield PUnit.unit)
theorem rules_wp {M : Model} {A : Around} {E : Value → Shared → Prop} {s : Shared} {c : Nat → Bool} {r : Nat → String} {Q : PUnit → Shared → Prop} (hq : Q ⟨⟩ s) : ∀ l : List Nat,
    wpAny M A (forIn l PUnit.unit (F c r)) Q E s
  | [] => wpAny_pure hq
  | i :: l => by
    rw [List.forIn_cons]
    refine wpAny_bind ?_
    unfold F
    cases hc : c i with
    | true => exact wpAny_bind (wpAny_rule (wpAny_pure (rules_wp hq l)))
    | false => exact wpAny_pure (rules_wp hq l)
open PySem.Builtin PySem.Builtin.Re in
theorem toEnd_wp {M : Model} {A : Around} {E : Value → Shared → Prop} {s : Shared} {Q : Option Sre.M → Shared → Prop} {m : Sre.M} {j : Nat} (hj : j ≤ 2 ^ 30)
    (h : (it j m).outcome = some .matched ∧ Q (some (it j m)) s ∨ (it j m).outcome = some .failed ∧ Q none s) : wpAny M A (reRunToEnd m) Q E s := by
  unfold reRunToEnd
  have hs : (it j m).outcome.isSome = true := by rcases h with h | h <;> rw [h.1] <;> rfl
  have e : it (4 * (j + 1)) m = it j m := by
    rw [show 4 * (j + 1) = j + (3 * j + 4) by lia, it_add, it_done hs]
  obtain ⟨N, hN⟩ : ∃ N, N = 2 ^ 64 := ⟨_, rfl⟩
  rw [← hN]
  refine wpAny_bind (drive_wp j N m (by rw [hN]; exact Nat.lt_of_le_of_lt hj (by decide)) (by rw [e]; exact hs) ?_)
  rw [e]
  refine wpAny_bind (rules_wp ?_ _)
  rcases h with h | h
  · rw [h.1]; exact wpAny_pure h.2
  · rw [h.1]; exact wpAny_pure h.2
end PartRe2

section PartRe3
open PySem.Builtin PySem.Builtin.Re
theorem slot_sub : Slot "re.Pattern" "sub" "re.Pattern.sub" :=
  .of (owner := "re.Pattern") (n := "sub") (by rw [typeLookup_type, builtinLookup_eq_fast]; kernel_rfl) (by decide +kernel) (by decide +kernel) (by decide +kernel)
    (by first | exact .inl (by decide +kernel) | exact .inr (by decide +kernel)) (by rw [isSubtype_type]; kernel_rfl)
theorem type_sub : typeOf (.builtin "re.Pattern.sub") = pure (.type "method_descriptor") := by show builtinType _ = _; rw [builtinType_eq_fast]; kernel_rfl
theorem entry_sub : entryFor table "re.Pattern.sub" = some Builtin.«re.Pattern.sub» := entryFor_of_tree (by kernel_rfl)
theorem entry_sub_loop : entryFor table "re.Pattern.sub.loop" = some Builtin.«re.Pattern.sub.loop» := entryFor_of_tree (by kernel_rfl)
theorem plain_sub_loop : plainId "re.Pattern.sub.loop" = true := by decide +kernel
theorem plainAttrs_re : PlainAttrs "re.Pattern" :=
  ⟨⟨"object.__getattribute__", by rw [typeLookup_type, builtinLookup_eq_fast]; kernel_rfl, by decide +kernel⟩, by rw [typeLookup_type, builtinLookup_eq_fast]; kernel_rfl⟩
theorem args_sub (a b c : Value) : argsOk "re.Pattern.sub" ⟨[a, b, c], []⟩ := by
  unfold argsOk; kernel_rfl
structure IsPat (h : Heap) (pa : Addr) (code : Array Nat) : Prop where
  ex : ∃ o fs ca oc items n, h.get? pa = some o ∧ o.data = .fields fs ∧ reRawNat (fs.getD 6 .none) = 0 ∧ fs.getD 5 .none = .ref ca ∧ reRawNat (fs.getD 2 .none) = 0 ∧
    h.get? ca = some oc ∧ oc.data = .seq items n ∧ (items.map reRawOf).map Int.toNat = code
section
variable {A : Around} {E : Value → Shared → Prop} {s : Shared} {w : World}
theorem wtarget_wp {pa : Addr} {code : Array Nat} {xs : List Nat} {t : Tok} {Q : ReTarget → Shared → Prop} (hp : IsPat s.heap pa code)
    (hq : Q { pattern := .ref pa, string := .str (T xs) t, code, text := xs.toArray, kind := 0, groups := 0, pos := 0, lim := xs.length } s) : wpAny (model P w) A (reWholeTarget (.ref pa) (.str (T xs) t)) Q E s := by
  obtain ⟨o, fs, ca, oc, items, n, h1, h2, h3, h4, h5, h6, h7, rfl⟩ := hp.ex
  unfold reWholeTarget fieldsOf
  refine wpAny_bind (wpAny_bind (wpAny_load h1 ?_))
  rw [h2]
  refine wpAny_pure ?_
  unfold reTextOf asStr?
  refine wpAny_bind (wpAny_bind (wpAny_pure (wpAny_pure ?_)))
  dsimp only
  rw [h3, h4, h5, if_neg (by decide), if_neg (by decide)]
  unfold reNoCollectionInside
  refine wpAny_bind ?_
  rw [if_neg (by decide)]
  refine wpAny_pure ?_
  unfold reRawItems
  refine wpAny_bind (wpAny_bind (wpAny_seqItems h6 h7 (wpAny_pure ?_)))
  refine wpAny_pure ?_
  have e : xs.toArray.size = xs.length := rfl
  simpa using hq
noncomputable def subst (h : Nat → Bool) (rep : List Nat) : Nat → List Nat → List Nat
  | _, [] => []
  | i, x :: r => (if h i = true then rep else [x]) ++ subst h rep (i + 1) r
theorem subst_free {h : Nat → Bool} {rep : List Nat} : ∀ {l : List Nat} {i : Nat}, (∀ r, i ≤ r → r < i + l.length → h r = false) → subst h rep i l = l
  | [], i, _ => rfl
  | x :: r, i, H => by
    have h0 := H i (Nat.le_refl _) (by simp)
    simp only [subst, h0, Bool.false_eq_true, if_false, List.singleton_append, List.cons.injEq, true_and]
    exact subst_free fun r a b => H r (by lia) (by simp; lia)
theorem subst_app {h : Nat → Bool} {rep : List Nat} : ∀ {a b : List Nat} {i : Nat}, subst h rep i (a ++ b) = subst h rep i a ++ subst h rep (i + a.length) b
  | [], b, i => by simp [subst]
  | x :: r, b, i => by
    simp only [List.cons_append, subst, List.append_assoc, subst_app (a := r), List.length_cons]
    congr 3; lia
theorem subst_hit {h : Nat → Bool} {rep xs : List Nat} {p q : Nat} (hp : p ≤ q) (hq : q < xs.length) (hh : h q = true) (hf : ∀ r, p ≤ r → r < q → h r = false) :
    subst h rep p (xs.drop p) = (xs.drop p).take (q - p) ++ rep ++ subst h rep (q + 1) (xs.drop (q + 1)) := by
  have e : xs.drop p = (xs.drop p).take (q - p) ++ (xs[q] :: xs.drop (q + 1)) := by
    have := (List.take_append_drop (q - p) (xs.drop p)).symm
    rw [List.drop_drop, show p + (q - p) = q by lia, List.drop_eq_getElem_cons hq] at this
    exact this
  conv => lhs; rw [e]
  rw [subst_app, subst_free, List.length_take, List.length_drop, show p + min (q - p) (xs.length - p) = q by lia]
  · simp only [subst, hh, if_true, List.append_assoc]
  · intro r a b
    rw [List.length_take, List.length_drop] at b
    exact hf r a (by lia)
theorem extract_T (xs : List Nat) (b e : Nat) : (⟨xs.toArray.extract b e⟩ : Str) = T ((xs.drop b).take (e - b)) := by
  unfold T
  rw [List.extract_toArray]
theorem reSlice_wp {xs : List Nat} {b e : Nat} {Q : Value → Shared → Prop} (hl : xs.length ≤ 100000) (hq : Q (.str (T ((xs.drop b).take (e - b))) s.toks) { s with toks := s.toks + 1 }) : wpAny (model P w) A (reSlice xs.toArray 0 b e) Q E s := by
  show wpAny _ A (mkStr ⟨xs.toArray.extract b e⟩) _ _ _
  rw [extract_T]
  refine wpAny_mkStr hq ?_
  rw [T_len, List.length_take, List.length_drop, sizeLine_eq]; lia
end
end PartRe3

section PartRe4
open PySem.Builtin PySem.Builtin.Re
structure Rel (D : Addr) (s s' : Shared) : Prop where
  keep : ∀ b o, b ≠ D → s.heap.get? b = some o → s'.heap.get? b = some o
  gens : s'.gens = s.gens
  drawn : s'.drawn = s.drawn
  os : s'.os = s.os
theorem Rel.tok {D : Addr} {s s' : Shared} (r : Rel D s s') (t : Nat) : Rel D s { s' with toks := t } := ⟨r.keep, r.gens, r.drawn, r.os⟩
theorem Rel.upd {D : Addr} {s s' : Shared} (r : Rel D s s') (f : Obj → Obj) (t : Nat) : Rel D s { s' with heap := s'.heap.update D f, toks := t } :=
  ⟨fun b o hb e => (Heap.get?_update_other _ _ (Ne.symm hb)).trans (r.keep b o hb e), r.gens, r.drawn, r.os⟩
theorem push_wp {A : Around} {E : Value → Shared → Prop} {s : Shared} {M : Model} {D : Addr} {vs : List Value} {m : Nat} {v : Value} {Q : Unit → Shared → Prop} (hD : IsL s.heap D vs.toArray m) (hl : vs.length ≤ 100000)
    (hq : ∀ m', IsL (s.heap.update D (Obj.mapSeq (·.push v))) D (vs ++ [v]).toArray m' → Q () { s with heap := s.heap.update D (Obj.mapSeq (·.push v)) }) : wpAny M A (updateSeq D (·.push v)) Q E s := by
  refine wpAny_updateSeq (o := lstO vs m) hD rfl (hq (m + 1) ?_) (by simp [sizeLine_eq]; lia) (by simp [sizeLine_eq]; lia)
  have z := hD.update (·.push v)
  rw [if_neg (by simp)] at z
  simpa using z
theorem join0_T : ∀ (ps : List (List Nat)), Str.join (T []) (ps.map T) = T ps.flatten
  | [] => rfl
  | [a] => by simp [Str.join]
  | a :: b :: r => by
    show T a ++ T [] ++ Str.join (T []) ((b :: r).map T) = _
    rw [join0_T (b :: r), T_app, T_app]
    simp
theorem glued0_T (ps : List (List Nat)) : Txt.join (T []) (ps.map T) = T ps.flatten := by
  unfold Txt.join
  rw [PySem.StrLaws.glued_eq_join, join0_T]
theorem sub_loop {w : World} {A : Around} {code : Array Nat} {xs rep : List Nat} {hits : Nat → Bool} {pa D : Addr} {t u : Tok} {s₀ : Shared}
    (hfind : ∀ p must, p ≤ xs.length → ∃ j, j ≤ 2 ^ 30 ∧ Find code xs.toArray hits p (it j (Sre.forSearch code xs.toArray 0 p xs.length must))) (hl : xs.length ≤ 2000) (hrep : rep.length ≤ 2)
    (hpat : ∀ s, Rel D s₀ s → IsPat s.heap pa code) (R : Result → Shared → Prop) :
    ∀ (k p : Nat) (n : Int) (must : Bool) (vs : List Value) (ps : List (List Nat)) (m : Nat) (s : Shared), xs.length - p = k → p ≤ xs.length → Rel D s₀ s → IsL s.heap D vs.toArray m → IsStrs vs ps → ps.length ≤ 2 * p → (∀ x ∈ ps, x.length ≤ 2000) →
    (∀ t' s', Rel D s₀ s' → R (.ok (.ret (.str (T (ps.flatten ++ subst hits rep p (xs.drop p))) t'))) s') →
    codeAny (model P w) A (.builtin "re.Pattern.sub.loop" ⟨[.ref pa, .str (T xs) t, .str (T rep) u, rawInt 0, rawInt 0, rawInt n, rawInt p, rawInt p, .bool must, .ref D, .bool false], []⟩) R s := by
  intro k
  induction k using Nat.strongRecOn with
  | ind k ih =>
    intro p n must vs ps m s hk hp hr hD hvs hlen hps hR
    refine codeAny_builtin entry_sub_loop ?_
    generalize A.under _ = A'
    have hsz : xs.toArray.size = xs.length := rfl
    unfold «re.Pattern.sub.loop»
    dsimp only [rawInt]
    refine wpAny_bind (wtarget_wp (hpat s hr) ?_)
    dsimp only
    rw [if_pos (by decide)]
    unfold reLiteralCannotBeTurned asStr?
    refine wpAny_bind (wpAny_bind (wpAny_pure ?_))
    rw [if_neg (by simp)]
    refine wpAny_pure ?_
    rw [if_neg (by simp)]
    unfold reNextFound
    dsimp only
    rw [Int.toNat_natCast]
    obtain ⟨j, hj, hf⟩ := hfind p must hp
    refine wpAny_bind (toEnd_wp hj ?_)
    rcases hf with ⟨q, hpq, hqs, hh, hmiss, ho, hst, hha⟩ | ⟨hmiss, ho⟩
    · refine .inl ⟨ho, ?_⟩
      rw [hsz] at hqs
      dsimp only
      rw [hst, hha]
      have hsub := subst_hit (rep := rep) hpq hqs hh hmiss
      have next : ∀ (vs' : List Value) (ps' : List (List Nat)) (m' : Nat) (s' : Shared), Rel D s₀ s' → IsL s'.heap D vs'.toArray m' → IsStrs vs' ps' → ps'.length ≤ 2 * (q + 1) → (∀ x ∈ ps', x.length ≤ 2000) →
          ps'.flatten = ps.flatten ++ (xs.drop p).take (q - p) ++ rep → ∀ b, codeAny (model P w) A (.builtin "re.Pattern.sub.loop" ⟨[.ref pa, .str (T xs) t, .str (T rep) u, rawInt 0, rawInt 0, rawInt (n + 1), rawInt ((q + 1 : Nat) : Int), rawInt ((q + 1 : Nat) : Int), .bool b, .ref D, .bool false], []⟩) R s' := by
        intro vs' ps' m' s' r d i l1 l2 e b
        refine ih (k - (q + 1 - p)) (by lia) (q + 1) (n + 1) b vs' ps' m' s' (by lia) hqs r d i l1 l2 ?_
        intro t' s'' r'
        have := hR t' s'' r'
        rw [hsub, ← List.append_assoc, ← List.append_assoc, ← e] at this
        exact this
      have fin : ∀ (vs' : List Value) (ps' : List (List Nat)) (m' : Nat) (s' : Shared), Rel D s₀ s' → IsL s'.heap D vs'.toArray m' → IsStrs vs' ps' → ps'.length ≤ 2 * q + 1 → (∀ x ∈ ps', x.length ≤ 2000) →
          ps'.flatten = ps.flatten ++ (xs.drop p).take (q - p) → wpAny (model P w) A' (do
            let item ← pure (Value.str (T rep) u)
            if (item != Value.none) = true then do
              updateSeq D fun x => x.push item
              again (Code.builtin "re.Pattern.sub.loop" ⟨[.ref pa, .str (T xs) t, .str (T rep) u, .int 0 0, .int 0 0, .int (n + 1) 0, .int ((q + 1 : Nat) : Int) 0, .int ((q + 1 : Nat) : Int) 0, .bool (q + 1 == q), .ref D, .bool false], []⟩)
            else again (Code.builtin "re.Pattern.sub.loop" ⟨[.ref pa, .str (T xs) t, .str (T rep) u, .int 0 0, .int 0 0, .int (n + 1) 0, .int ((q + 1 : Nat) : Int) 0, .int ((q + 1 : Nat) : Int) 0, .bool (q + 1 == q), .ref D, .bool false], []⟩))
            (fun fin s' => match fin with
              | .done f => R (.ok f) s'
              | .again c' => c'.quiet = true ∧ codeAny (model P w) A c' R s') (fun e s' => R (.error e) s') s' := by
        intro vs' ps' m' s' r d i l1 l2 e
        refine wpAny_bind (wpAny_pure ?_)
        rw [if_pos (by rfl)]
        have hvl : vs'.length ≤ 100000 := by rw [i.length]; lia
        refine wpAny_bind (push_wp d hvl fun m2 d2 => ?_)
        refine wpAny_pure ⟨plainId_quiet plain_sub_loop _, ?_⟩
        refine next _ (ps' ++ [rep]) m2 _ (r.upd _ _) d2 i.snoc (by simp; lia) ?_ (by rw [List.flatten_append, e]; simp) _
        intro x hx
        rcases List.mem_append.mp hx with hx | hx
        · exact l2 x hx
        · rw [List.mem_singleton.mp hx]; lia
      by_cases hlt : p < q
      · rw [if_pos hlt]
        refine wpAny_bind (reSlice_wp (by lia) ?_)
        have hvl : vs.length ≤ 100000 := by rw [hvs.length]; lia
        refine wpAny_bind (push_wp (s := { s with toks := s.toks + 1 }) hD hvl fun m2 d2 => ?_)
        rw [if_pos (by rfl)]
        refine fin _ (ps ++ [(xs.drop p).take (q - p)]) m2 _ ((hr.tok _).upd _ _) d2 hvs.snoc (by simp; lia) ?_ (by simp)
        intro x hx
        rcases List.mem_append.mp hx with hx | hx
        · exact hps x hx
        · rw [List.mem_singleton.mp hx, List.length_take, List.length_drop]; lia
      · rw [if_neg hlt, if_pos (by rfl)]
        refine fin vs ps m s hr hD hvs (by lia) hps ?_
        rw [show q - p = 0 by lia]; simp
    · refine .inr ⟨ho, ?_⟩
      dsimp only
      have fin : ∀ (vs' : List Value) (ps' : List (List Nat)) (m' : Nat) (s' : Shared), Rel D s₀ s' → IsL s'.heap D vs'.toArray m' → IsStrs vs' ps' → ps'.length ≤ 4001 → (∀ x ∈ ps', x.length ≤ 2000) →
          ps'.flatten = ps.flatten ++ subst hits rep p (xs.drop p) → wpAny (model P w) A' (do
            let joiner ← reSlice xs.toArray 0 0 0
            let __do_lift ← seqItems? (Value.ref D)
            if (__do_lift.getD #[]).isEmpty = true then do
                let text ← pure joiner
                if false = true then do
                    let __do_lift ←
                      holding [text] do
                          let __do_lift ← mkInt n
                          newTuple [text, __do_lift]
                    ret __do_lift
                  else ret text
              else do
                let text ← call (Value.builtin (if (0 == 0) = true then "str.join" else "bytes.join")) [joiner, Value.ref D]
                if false = true then do
                    let __do_lift ←
                      holding [text] do
                          let __do_lift ← mkInt n
                          newTuple [text, __do_lift]
                    ret __do_lift
                  else ret text)
            (fun fin s' => match fin with
              | .done f => R (.ok f) s'
              | .again c' => c'.quiet = true ∧ codeAny (model P w) A c' R s') (fun e s' => R (.error e) s') s' := by
        intro vs' ps' m' s' r d i l1 l2 e
        refine wpAny_bind (reSlice_wp (by lia) ?_)
        refine wpAny_bind (wpAny_seqItems (s := { s' with toks := s'.toks + 1 }) d rfl ?_)
        have e0 : (xs.drop 0).take (0 - 0) = [] := by simp
        rw [e0]
        have hR' := hR
        rw [← e] at hR'
        by_cases hv : vs' = []
        · subst hv
          rw [if_pos (by rfl)]
          refine wpAny_bind (wpAny_pure ?_)
          rw [if_neg (by simp)]
          have hps0 : ps' = [] := List.eq_nil_of_length_eq_zero (by rw [← i.length]; rfl)
          rw [hps0] at hR'
          exact wpAny_pure (hR' _ _ (r.tok _))
        · rw [if_neg (by simp [hv]), if_pos (by rfl)]
          obtain ⟨ll, rfl, e1⟩ := i
          refine wpAny_bind (SC.join (l := ll) (texts := ps'.map T) ⟨_, d, rfl, _, rfl⟩ e1 ?_ fun t' k => ?_)
          · unfold JoinOk
            have := PySem.StrLaws.joinFits (sep := T []) (texts := ps'.map T) (B := 2000) (fun y hy => by
              obtain ⟨x, hx, rfl⟩ := List.mem_map.mp hy
              rw [T_len]; exact l2 x hx) (by rw [List.length_map, T_len]; simp; lia)
            rw [this]; rfl
          · rw [if_neg (by simp), glued0_T]
            exact wpAny_pure (hR' _ _ (r.tok _))
      by_cases hlt : p < xs.length
      · rw [if_pos hlt]
        refine wpAny_bind (reSlice_wp (by lia) ?_)
        have hvl : vs.length ≤ 100000 := by rw [hvs.length]; lia
        refine wpAny_bind (push_wp (s := { s with toks := s.toks + 1 }) hD hvl fun m2 d2 => ?_)
        refine fin _ (ps ++ [(xs.drop p).take (xs.length - p)]) m2 _ ((hr.tok _).upd _ _) d2 hvs.snoc (by simp; lia) ?_ ?_
        · intro x hx
          rcases List.mem_append.mp hx with hx | hx
          · exact hps x hx
          · rw [List.mem_singleton.mp hx, List.length_take, List.length_drop]; lia
        · rw [subst_free (fun r a b => hmiss r a (by rw [List.length_drop] at b; rw [hsz]; lia)), List.take_of_length_le (by simp)]; simp
      · rw [if_neg hlt]
        refine fin vs ps m s hr hD hvs (by lia) hps ?_
        rw [List.drop_eq_nil_of_le (by lia)]; simp [subst]
end PartRe4

section PartRe5
open PySem.Builtin PySem.Builtin.Re
theorem Cx.went {w s₀ s s' L l g pr} (C : Cx w s₀ L l g pr s) (t : To s s') : Ext g (Mine.vis s'.heap) ∧ Cx w s₀ L l (Mine.vis s'.heap) pr s' := by
  obtain ⟨m, hn, hm⟩ := C.loc
  exact ⟨C.vis ▸ t.ext, C.kin, fun b o e => t.keep b o (C.keep b o e), C.new, ⟨m, hn.keeps t.keep, hm⟩, rfl, t.gens.trans C.gens, t.drawn.trans C.drawn, t.os.trans C.os, fun p hp => ⟨t.keep _ _ (C.prot p hp).1, (C.prot p hp).2⟩, C.nd⟩
theorem named_sub (a b : Value) : reNamed "re.Pattern.sub" "sub" ["repl", "string", "count"] 2 [a, b] [] = pure [some a, some b, none] := by
  kernel_rfl
theorem nocall_str (x : Str) (t : Tok) : specialOf (.str x t) "__call__" = pure none := by show typeLookup (.type "str") _ = _; rw [typeLookup_type, builtinLookup_eq_fast]; kernel_rfl
theorem m_sub {w : World} {A : Around} {E : Value → Shared → Prop} {s : Shared} {code : Array Nat} {pa : Addr} {pos : Pos} {a b : Sem Value} {Q : Value → Shared → Prop}
    (h : wpAny (model P w) A a (fun va s₁ => wpAny (model P w) A b (fun vb s₂ => ∃ rep u xs t hits, va = .str (T rep) u ∧ vb = .str (T xs) t ∧ xs.length ≤ 2000 ∧ rep.length ≤ 2 ∧ 92 ∉ rep ∧
      (∀ p must, p ≤ xs.length → ∃ j, j ≤ 2 ^ 30 ∧ Find code xs.toArray hits p (it j (Sre.forSearch code xs.toArray 0 p xs.length must))) ∧
      (∃ o, s₂.heap.get? pa = some o ∧ o.cls = .type "re.Pattern" ∧ o.dict = none) ∧ (∀ h', (∀ b o, s₂.heap.get? b = some o → h'.get? b = some o) → IsPat h' pa code) ∧
      ∀ t' s', To s₂ s' → Q (.str (T (subst hits rep 0 xs)) t') s') E s₁) E s)
    (h0 : ∃ o, s.heap.get? pa = some o ∧ o.cls = .type "re.Pattern" ∧ o.dict = none) :
    MethodOnS P w A E "sub" (.ref pa) pos [(false, a), (false, b)] Q s := by
  obtain ⟨o0, g0, c0, d0⟩ := h0
  refine ⟨"re.Pattern", _, plainAttrs_re, slot_sub, type_sub, ⟨o0, g0, c0⟩, fun b e => by cases e; exact ⟨_, g0, d0⟩, ?_⟩
  refine method2_meetsIn slot_sub entry_sub (wpAny_mono h (fun va s₁ h₁ => wpAny_mono h₁ (fun vb s₂ h₂ => ?_) fun _ _ q => q) fun _ _ q => q)
  obtain ⟨rep, u, xs, t, hits, rfl, rfl, hl, hrep, h92, hfind, ⟨o, g, c, d⟩, hpat, hQ⟩ := h₂
  refine ⟨⟨o, g, c⟩, args_sub _ _ _, fun A R s => s = s₂ ∧ R = wants Q E, ?_, rfl, rfl⟩
  rintro A R s ⟨rfl, rfl⟩
  generalize A.in1 = A'
  show wpAny _ A' (reSubstitute "re.Pattern.sub" "sub" false ⟨[.ref pa, .str (T rep) u, .str (T xs) t], []⟩) _ _ s
  unfold reSubstitute
  dsimp only
  rw [named_sub]
  refine wpAny_bind (wpAny_pure ?_)
  dsimp only
  refine wpAny_bind (wpAny_pure ?_)
  refine wpAny_bind ?_
  have nc : specialOf (Value.str (T rep) u) (Str.ofString "__call__") = pure none := nocall_str _ _
  rw [nc]
  refine wpAny_pure ?_
  rw [if_neg (by simp)]
  unfold asStr?
  refine wpAny_bind (wpAny_pure ?_)
  dsimp only
  refine wpAny_bind (wpAny_pure ?_)
  have h92' : (!(T rep).cps.contains 92) = true := by
    unfold T
    simpa using h92
  rw [h92', if_neg (by simp), if_pos rfl]
  refine wpAny_bind (wpAny_pure ?_)
  dsimp only
  refine wpAny_bind (wpAny_holding (wtarget_wp (hpat _ fun _ _ e => e) ?_))
  rw [if_neg (by decide)]
  refine wpAny_bind (wpAny_newList ?_ (by simp [sizeLine_eq]))
  refine wpAny_pure ⟨plainId_quiet plain_sub_loop _, ?_⟩
  have new : s.heap.get? s.heap.objs.size = none := size_none _
  refine sub_loop (s₀ := { s with heap := s.heap.push (lstO [] 0) }) (hits := hits) (code := code) (D := s.heap.objs.size) hfind hl hrep (fun s1 r => hpat _ fun b o e => ?_) _ xs.length 0 0 false [] [] 0 { s with heap := s.heap.push (lstO [] 0) } (by lia) (Nat.zero_le _)
    ⟨fun _ _ _ e => e, rfl, rfl, rfl⟩ (Heap.get?_push_size _ rfl) IsStrs.nil (by simp) (by simp) fun t' s' r => ?_
  · exact r.keep _ _ (fun q => by rw [q, new] at e; cases e) (Heap.get?_push_of_some _ e)
  · refine hQ t' s' ⟨fun b o e => ?_, r.gens, r.drawn, r.os⟩
    exact r.keep _ _ (fun q => by rw [q, new] at e; cases e) (Heap.get?_push_of_some _ e)
end PartRe5

section PartRe6
noncomputable def crlf (l : List Nat) : List Nat := l.flatMap fun c => if c = 10 then [13, 10] else [c]
noncomputable def dots : Bool → List Nat → List Nat
  | _, [] => []
  | b, x :: r => (if b = true ∧ x = 46 then [46, 46] else [x]) ++ dots (x == 10) r
theorem getD_app (a b : List Nat) (i : Nat) : (a ++ b).toArray.getD (a.length + i) 0 = b.toArray.getD i 0 := by
  simp [Array.getD_eq_getD_getElem?]
  rw [List.getElem?_append_right (by lia), Nat.add_sub_cancel_left]
theorem subst_crlf : ∀ (l pre : List Nat), subst (h10 (pre ++ l).toArray) [13, 10] pre.length l = crlf l
  | [], pre => rfl
  | x :: r, pre => by
    have ih := subst_crlf r (pre ++ [x])
    rw [List.append_assoc, List.length_append] at ih
    have e : h10 (pre ++ x :: r).toArray pre.length = (x == 10) := by
      unfold h10
      have := getD_app pre (x :: r) 0
      rw [Nat.add_zero] at this
      rw [this]; rfl
    simp only [subst, e, crlf, List.flatMap_cons]
    congr 1
    by_cases h : x = 10 <;> simp [h]
theorem subst_dots : ∀ (l pre : List Nat), subst (hit (pre ++ l).toArray) [46, 46] pre.length l = dots (pre.isEmpty || pre.getLast? == some 10) l
  | [], pre => by simp [subst, dots]
  | x :: r, pre => by
    have ih := subst_dots r (pre ++ [x])
    rw [List.append_assoc, List.length_append] at ih
    have e : hit (pre ++ x :: r).toArray pre.length = ((pre.isEmpty || pre.getLast? == some 10) && x == 46) := by
      unfold hit
      have h1 := getD_app pre (x :: r) 0
      rw [Nat.add_zero] at h1
      rw [h1]
      show (_ && x == 46) = _
      congr 1
      rcases List.eq_nil_or_concat pre with h | ⟨p', z, h⟩
      · subst h; rfl
      · rw [List.concat_eq_append] at h
        subst h
        have h2 := getD_app p' (z :: x :: r) 0
        rw [Nat.add_zero] at h2
        rw [List.length_append, show p'.length + [z].length - 1 = p'.length by simp, List.append_assoc]
        show (_ || (p' ++ z :: x :: r).toArray.getD p'.length 0 == 10) = _
        rw [h2]
        simp
    simp only [subst, e, dots]
    congr 1
    · by_cases h : x = 46 <;> simp [h]
    · have : (pre ++ [x]).isEmpty = false := by simp
      rw [this, Bool.false_or, List.getLast?_concat] at ih
      rw [show ((some x == some 10) = (x == 10)) from rfl] at ih
      exact ih
theorem crlf_len (l : List Nat) : (crlf l).length ≤ 2 * l.length := by
  induction l with
  | nil => simp [crlf]
  | cons x r ih =>
    simp only [crlf, List.flatMap_cons, List.length_append, List.length_cons] at ih ⊢
    have : (if x = 10 then [13, 10] else [x]).length ≤ 2 := by split <;> simp
    lia
theorem h13_of {x : List Nat} (h : 13 ∉ x) : ∀ q, x.toArray.getD q 0 ≠ 13 := by
  intro q e
  rw [Array.getD_eq_getD_getElem?] at e
  cases z : x.toArray[q]? with
  | none => rw [z] at e; cases e
  | some y =>
    rw [z] at e
    simp only [Option.getD_some] at e
    subst e
    exact h (by have := List.mem_of_getElem? (by simpa using z); exact this)
theorem quotedata_c {w A s k} {x : List Nat} {t : Tok} (kin : (K2 w.params).In s.heap) (hA : Ok (k+2) A) (h13 : 13 ∉ x) (hl : x.length ≤ 900) :
    Spec w A 71 [.str (T x) t] (fun v _ _ => ∃ t', v = .str (T (dots true (crlf x))) t') s := by
  refine enter (binds := [("data", .str _ t)]) kin hA rfl rfl rfl rfl rfl rfl rfl rfl rfl fun L s' C => ?_
  ((with_reducible refine ex_gen ?_); intro Qn hN hO)
  with_reducible refine wpAny_Return_some ?_
  (refine' Call_method2 ?e1 ?e2 ?e3 ?_); (case e1 => exact rfl); (case e2 => exact rfl); (case e3 => exact rfl)
  (refine nm_g (by walk_at "cx") rfl rfl rfl rfl rfl ?_)
  dsimp only
  have p64 : ∀ h : Heap, (K2 w.params).In h → IsPat h 64 code2 := fun h k => ⟨_, _, _, _, _, _, k _ _ rfl, rfl, rfl, rfl, rfl, k _ _ rfl, rfl, by with_unfolding_all decide⟩
  have p59 : ∀ h : Heap, (K2 w.params).In h → IsPat h 59 code1 := fun h k => ⟨_, _, _, _, _, _, k _ _ rfl, rfl, rfl, rfl, rfl, k _ _ rfl, rfl, by with_unfolding_all decide⟩
  have hlen := crlf_len x
  refine m_sub (code := code1) ?_ ⟨_, C.k _ _ rfl, rfl, by with_unfolding_all decide⟩
  ((with_reducible refine' const_T ?e1 ?_); (case e1 => first | exact slash_T | exact dot_T | exact dots_T | exact empty_T | exact nl_T | exact crlf_T | exact dcrlf_T | exact a_T | exact da_T | exact ddd_T | exact ah_T | exact sdots_T))
  (refine' Call_method2 ?e1 ?e2 ?e3 ?_); (case e1 => exact rfl); (case e2 => exact rfl); (case e3 => exact rfl)
  (refine nm_g (by walk_at "cx") rfl rfl rfl rfl rfl ?_)
  dsimp only
  refine m_sub (code := code2) ?_ ⟨_, Cx.k (by walk_at "cx") _ _ rfl, rfl, rfl⟩
  (refine nm_g (by walk_at "cx") rfl rfl rfl rfl rfl ?_)
  (refine nm_l (by walk_at "cx") rfl rfl rfl rfl rfl ?_)
  dsimp only
  have bound : ∀ (y : List Nat) (j : Nat), y.length ≤ 1800 → j ≤ 3 * y.toArray.size + 9 → j ≤ 2 ^ 30 := fun y j h1 h2 => by
    have : y.toArray.size = y.length := rfl
    rw [this] at h2
    exact Nat.le_trans (m := 10000) (by lia) (by decide)
  refine ⟨[13, 10], _, x, t, h10 x.toArray, by rw [← crlf_T], rfl, by lia, by simp, by simp, fun p must hp => ?_, ⟨_, Cx.k (by walk_at "cx") _ _ rfl, rfl, rfl⟩, fun h' k' => p64 h' ((Cx.k (by walk_at "cx")).keeps k'), fun t1 s1 T1 => ?_⟩
  · obtain ⟨j, hj, hf⟩ := find2 x.toArray (h13_of h13) p must hp
    exact ⟨j, bound x j (by lia) hj, hf⟩
  have e1 := subst_crlf x []
  rw [List.nil_append, List.length_nil] at e1
  rw [e1]
  have C1 := (Cx.went (by walk_at "cx") T1).2
  refine ⟨[46, 46], _, crlf x, t1, hit (crlf x).toArray, rfl, rfl, by lia, by simp, by simp, fun p must hp => ?_, ⟨_, Cx.k (by walk_at "cx") _ _ rfl, rfl, rfl⟩, fun h' k' => p59 h' ((Cx.k (by walk_at "cx")).keeps k'), fun t2 s2 T2 => ?_⟩
  · obtain ⟨j, hj, hf⟩ := find1 (crlf x).toArray p must hp
    exact ⟨j, bound _ j (by lia) hj, hf⟩
  have e2 := subst_dots (crlf x) []
  rw [List.nil_append, List.length_nil, List.isEmpty_nil, Bool.true_or] at e2
  rw [e2]
  have C2 := (C1.went T2).2
  ((with_reducible refine qot (by assumption) ?e1 ?_); (case e1 => exact fun h => nomatch h); (try clear hN hO))
  dsimp only
  refine And.intro (Cx.to (by walk_at "cx")) ?_
  exact ⟨_, rfl⟩
end PartRe6

section PartPx
noncomputable def pth (ns : List (List Nat)) : List Nat := 47 :: inter 47 ns
structure GN (a : List Nat) : Prop where
  ne : a ≠ []
  sl : 47 ∉ a
  nl : 10 ∉ a
  cr : 13 ∉ a
  len : a.length ≤ 3
  d1 : a ≠ [46]
  d2 : a ≠ [46, 46]
noncomputable def GL (ns : List (List Nat)) : Prop := ∀ a ∈ ns, GN a
noncomputable def quo (a : List Nat) : List Nat := if a.head? = some 46 then 46 :: a else a
theorem crlf_free {a : List Nat} (h : 10 ∉ a) : crlf a = a := by
  unfold crlf
  induction a with
  | nil => rfl
  | cons x r ih =>
    have h1 : x ≠ 10 := fun e => h (e ▸ .head _)
    rw [List.flatMap_cons, if_neg h1, ih fun m => h (.tail _ m)]; rfl
theorem dots_free : ∀ {a : List Nat} , 10 ∉ a → dots false a = a
  | [], _ => rfl
  | x :: r, h => by
    have h1 : x ≠ 10 := fun e => h (e ▸ .head _)
    rw [dots, if_neg (by simp), beq_eq_false_iff_ne.mpr h1, dots_free fun m => h (.tail _ m)]; rfl
theorem quo_eq {a : List Nat} (h : 10 ∉ a) : dots true (crlf a) = quo a := by
  rw [crlf_free h]
  cases a with
  | nil => rfl
  | cons x r =>
    have h1 : x ≠ 10 := fun e => h (e ▸ .head _)
    rw [dots, beq_eq_false_iff_ne.mpr h1, dots_free fun m => h (.tail _ m)]
    unfold quo
    by_cases hx : x = 46
    · subst hx; simp
    · rw [if_neg (by simp [hx]), if_neg (by simp [hx])]; rfl
theorem inter_ne (c : Nat) : ∀ {ns : List (List Nat)}, ns ≠ [] → (∀ a ∈ ns, a ≠ []) → inter c ns ≠ []
  | [a], _, h => h a (.head _)
  | a :: b :: r, _, h => by rw [inter_cons c a (by simp)]; simp
theorem pth_inj {ns ms : List (List Nat)} (hn : GL ns) (hm : GL ms) (e : pth ns = pth ms) : ns = ms := by
  have e1 : inter 47 ns = inter 47 ms := by simpa [pth] using e
  by_cases h1 : ns = []
  · by_cases h2 : ms = []
    · rw [h1, h2]
    · rw [h1] at e1
      exact absurd e1.symm (inter_ne 47 h2 fun a ha => (hm a ha).ne)
  · by_cases h2 : ms = []
    · rw [h2] at e1
      exact absurd e1 (inter_ne 47 h1 fun a ha => (hn a ha).ne)
    · rw [← spl_inter 47 h1 fun a ha => (hn a ha).sl, e1, spl_inter 47 h2 fun a ha => (hm a ha).sl]
theorem pth_root {ns : List (List Nat)} (hn : GL ns) : (pth ns == [47]) = ns.isEmpty := by
  cases ns with
  | nil => rfl
  | cons a r =>
    show _ = false
    refine beq_eq_false_iff_ne.mpr fun e => ?_
    have := pth_inj (ms := []) hn (fun _ h => nomatch h) e
    cases this
theorem inter_snoc (c : Nat) (z : List Nat) : ∀ {ns : List (List Nat)}, ns ≠ [] → inter c (ns ++ [z]) = inter c ns ++ c :: z
  | [a], _ => rfl
  | a :: b :: r, _ => by
    show inter c (a :: ((b :: r) ++ [z])) = _
    rw [inter_cons c a (by simp), inter_snoc c z (by simp), inter_cons c a (by simp)]; simp
noncomputable def par (ns : List (List Nat)) : List Nat := if ns = [] then [] else pth ns
theorem pth_snoc (ns : List (List Nat)) (z : List Nat) : pth (ns ++ [z]) = par ns ++ 47 :: z := by
  unfold par pth
  by_cases h : ns = []
  · subst h; rfl
  · rw [if_neg h, inter_snoc 47 z h]; rfl
theorem inter_last : ∀ {ns : List (List Nat)}, GL ns → ns ≠ [] → (inter 47 ns).getLast? ≠ some 47 := by
  intro ns hn hne
  rcases List.eq_nil_or_concat ns with h | ⟨p, z, h⟩
  · exact absurd h hne
  · rw [List.concat_eq_append] at h
    subst h
    have hz := hn z (by simp)
    have key : ∀ l : List Nat, (l ++ z).getLast? ≠ some 47 := fun l e => by
      rw [List.getLast?_append] at e
      cases q : z.getLast? with
      | none => exact hz.ne (List.getLast?_eq_none_iff.mp q)
      | some x =>
        rw [q] at e
        have : x = 47 := by simpa using e
        exact hz.sl (this ▸ List.mem_of_getLast? q)
    by_cases hp : p = []
    · subst hp; exact key []
    · rw [inter_snoc 47 z hp, show inter 47 p ++ 47 :: z = (inter 47 p ++ [47]) ++ z by simp]
      exact key _
theorem par_last {ns : List (List Nat)} (hn : GL ns) : (par ns).getLast? ≠ some 47 := by
  unfold par
  split
  · simp
  · rename_i h
    unfold pth
    rw [List.getLast?_cons]
    have h1 := inter_last hn h
    cases e : (inter 47 ns).getLast? with
    | none => rw [List.getLast?_eq_none_iff] at e; exact absurd e (inter_ne 47 h fun a ha => (hn a ha).ne)
    | some x => rw [e] at h1; simpa using h1
theorem par_up (ns : List (List Nat)) : (if par ns = [] then [47] else par ns) = pth ns := by
  unfold par
  by_cases h : ns = []
  · subst h; rfl
  · rw [if_neg h, if_neg (by simp [pth])]
theorem pth_len {ns : List (List Nat)} (hn : GL ns) : (pth ns).length ≤ 4 * ns.length + 1 := by
  have := inter_le 47 3 (ps := ns) fun a ha => (hn a ha).len
  simp [pth]; lia
/-- the order, on names from the innermost to the root -/
noncomputable def ordR : List (List Nat) → List (List Nat) → Int
  | [], [] => 0
  | [], _ :: _ => -1
  | _ :: _, [] => 1
  | a :: r, b :: q => if a :: r = b :: q then 0 else if ordR r q ≠ 0 then ordR r q else if quo a < quo b then -1 else 1
theorem GL.rev {ns : List (List Nat)} (h : GL ns) : GL ns.reverse := fun a ha => h a (List.mem_reverse.mp ha)
theorem GL.tl {a : List Nat} {ns : List (List Nat)} (h : GL (a :: ns)) : GL ns := fun b hb => h b (.tail _ hb)
theorem pth_beq {rs qs : List (List Nat)} (h1 : GL rs) (h2 : GL qs) : (pth rs.reverse == pth qs.reverse) = decide (rs = qs) := by
  by_cases e : rs = qs
  · subst e; simp
  · rw [decide_eq_false e]
    refine beq_eq_false_iff_ne.mpr fun q => e ?_
    have := pth_inj h1.rev h2.rev q
    simpa using this
theorem isEmpty_rev (ns : List (List Nat)) : ns.reverse.isEmpty = ns.isEmpty := by cases ns <;> simp
theorem toList_T (l : List Nat) : (T l).cps.toList = l := by simp [T]
end PartPx

section PartB2
theorem dir_p {w A s k} {ns : List (List Nat)} {z : List Nat} {t : Tok} (kin : (K2 w.params).In s.heap) (hA : Ok (k+2) A) (hn : GL (ns ++ [z])) (hl : ns.length ≤ 20) :
    Spec w A 186 [.str (T (pth (ns ++ [z]))) t] (fun v _ _ => ∃ t', v = .str (T (pth ns)) t') s := by
  have hns : GL ns := fun a ha => hn a (List.mem_append_left _ ha)
  have hz : GN z := hn z (by simp)
  have h1 := pth_len hn
  rw [pth_snoc] at h1 ⊢
  rw [← par_up ns]
  exact dirname_c kin hA hz.sl (Nat.le_trans h1 (by simp; lia)) (par_last hns)
theorem base_p {w A s k} {ns : List (List Nat)} {z : List Nat} {t : Tok} (kin : (K2 w.params).In s.heap) (hA : Ok (k+2) A) (hn : GL (ns ++ [z])) (hl : ns.length ≤ 20) :
    Spec w A 179 [.str (T (pth (ns ++ [z]))) t] (fun v _ _ => ∃ t', v = .str (T z) t') s := by
  have hz : GN z := hn z (by simp)
  have h1 := pth_len hn
  rw [pth_snoc] at h1 ⊢
  exact basename_c kin hA hz.sl (Nat.le_trans h1 (by simp; lia))
theorem quo_p {w A s k} {a : List Nat} {t : Tok} (kin : (K2 w.params).In s.heap) (hA : Ok (k+2) A) (ha : GN a) :
    Spec w A 71 [.str (T a) t] (fun v _ _ => ∃ t', v = .str (T (quo a)) t') s := by
  rw [← quo_eq ha.nl]
  exact quotedata_c kin hA ha.cr (by have := ha.len; lia)
theorem order_c {w : World} : ∀ (rs qs : List (List Nat)) (A : Around) (s : Shared) (k : Nat) (t u : Tok), (K2 w.params).In s.heap → Ok (k + rs.length + 4) A → GL rs → GL qs → rs.length ≤ 20 → qs.length ≤ 20 →
    Spec w A 214 [.str (T (pth rs.reverse)) t, .str (T (pth qs.reverse)) u] (fun v _ _ => ∃ tk, v = .int (ordR rs qs) tk) s := by
  intro rs
  induction rs with
  | nil =>
    intro qs A s k t u kin hA hr hq l1 l2
    refine enter (binds := [("p", .str _ t), ("q", .str _ u)]) kin hA rfl rfl rfl rfl rfl rfl rfl rfl rfl fun L s' C => ?_
    ((with_reducible refine ex_gen ?_); intro Qn hN hO)
    with_reducible refine wpAny_If ?_
    ((with_reducible refine wpAny_isTrue_Compare1 ?_ ?e1); (case e1 => with_unfolding_all rfl))
    (refine nm_l (by walk_at "cx") rfl rfl rfl rfl rfl ?_)
    (refine nm_l (by walk_at "cx") rfl rfl rfl rfl rfl ?_)
    with_reducible refine PyProof.Rows.eq_str ?_
    with_reducible refine wpAny_truthy_bool ?_
    rw [T_beq, pth_beq hr hq]
    cases qs with
    | nil =>
      refine it_of (by simp) ?_
      ((with_reducible refine ex_gen ?_); intro Qn hN hO)
      with_reducible refine wpAny_Return_some ?_
      with_reducible refine wpAny_Constant_int ?_
      ((with_reducible refine qot (by assumption) ?e1 ?_); (case e1 => exact fun h => nomatch h); (try clear hN hO))
      ((with_reducible refine qot (by assumption) ?e1 ?_); (case e1 => exact fun h => nomatch h); (try clear hN hO))
      dsimp only
      refine And.intro (Cx.to (by walk_at "cx")) ?_
      exact ⟨_, rfl⟩
    | cons b q =>
      refine it_no (by simp) ?_
      with_reducible refine wpAny_execs_nil ?_
      ((with_reducible refine qnx (by assumption) ?_); (try clear hN hO))
      ((with_reducible refine ex_gen ?_); intro Qn hN hO)
      with_reducible refine wpAny_If ?_
      with_reducible refine isTrue_or ?_
      ((with_reducible refine wpAny_isTrue_Compare1 ?_ ?e1); (case e1 => with_unfolding_all rfl))
      (refine nm_l (by walk_at "cx") rfl rfl rfl rfl rfl ?_)
      ((with_reducible refine' const_T ?e1 ?_); (case e1 => first | exact slash_T | exact dot_T | exact dots_T | exact empty_T | exact nl_T | exact crlf_T | exact dcrlf_T | exact a_T | exact da_T | exact ddd_T | exact ah_T | exact sdots_T))
      with_reducible refine PyProof.Rows.eq_str ?_
      with_reducible refine wpAny_truthy_bool ?_
      rw [T_beq, pth_root hr.rev, isEmpty_rev]
      refine it_of rfl ?_
      with_reducible refine it_t ?_
      ((with_reducible refine ex_gen ?_); intro Qn hN hO)
      with_reducible refine wpAny_Return_some ?_
      with_reducible refine IfExp_ ?_
      ((with_reducible refine wpAny_isTrue_Compare1 ?_ ?e1); (case e1 => with_unfolding_all rfl))
      (refine nm_l (by walk_at "cx") rfl rfl rfl rfl rfl ?_)
      ((with_reducible refine' const_T ?e1 ?_); (case e1 => first | exact slash_T | exact dot_T | exact dots_T | exact empty_T | exact nl_T | exact crlf_T | exact dcrlf_T | exact a_T | exact da_T | exact ddd_T | exact ah_T | exact sdots_T))
      with_reducible refine PyProof.Rows.eq_str ?_
      with_reducible refine wpAny_truthy_bool ?_
      dsimp only
      rw [T_beq, pth_root hr.rev, isEmpty_rev]
      refine it_of rfl ?_
      with_reducible refine UnaryOp_ ?_
      with_reducible refine wpAny_Constant_int ?_
      with_reducible refine neg_int ?_
      ((with_reducible refine qot (by assumption) ?e1 ?_); (case e1 => exact fun h => nomatch h); (try clear hN hO))
      ((with_reducible refine qot (by assumption) ?e1 ?_); (case e1 => exact fun h => nomatch h); (try clear hN hO))
      dsimp only
      refine And.intro (Cx.to (by walk_at "cx")) ?_
      exact ⟨_, rfl⟩
  | cons a r ih =>
    intro qs A s k t u kin hA hr hq l1 l2
    refine enter (binds := [("p", .str _ t), ("q", .str _ u)]) kin hA rfl rfl rfl rfl rfl rfl rfl rfl rfl fun L s' C => ?_
    ((with_reducible refine ex_gen ?_); intro Qn hN hO)
    with_reducible refine wpAny_If ?_
    ((with_reducible refine wpAny_isTrue_Compare1 ?_ ?e1); (case e1 => with_unfolding_all rfl))
    (refine nm_l (by walk_at "cx") rfl rfl rfl rfl rfl ?_)
    (refine nm_l (by walk_at "cx") rfl rfl rfl rfl rfl ?_)
    with_reducible refine PyProof.Rows.eq_str ?_
    with_reducible refine wpAny_truthy_bool ?_
    rw [T_beq, pth_beq hr hq]
    cases qs with
    | nil =>
      refine it_no (by simp) ?_
      with_reducible refine wpAny_execs_nil ?_
      ((with_reducible refine qnx (by assumption) ?_); (try clear hN hO))
      ((with_reducible refine ex_gen ?_); intro Qn hN hO)
      with_reducible refine wpAny_If ?_
      with_reducible refine isTrue_or ?_
      ((with_reducible refine wpAny_isTrue_Compare1 ?_ ?e1); (case e1 => with_unfolding_all rfl))
      (refine nm_l (by walk_at "cx") rfl rfl rfl rfl rfl ?_)
      ((with_reducible refine' const_T ?e1 ?_); (case e1 => first | exact slash_T | exact dot_T | exact dots_T | exact empty_T | exact nl_T | exact crlf_T | exact dcrlf_T | exact a_T | exact da_T | exact ddd_T | exact ah_T | exact sdots_T))
      with_reducible refine PyProof.Rows.eq_str ?_
      with_reducible refine wpAny_truthy_bool ?_
      rw [T_beq, pth_root hr.rev, isEmpty_rev]
      refine it_no rfl ?_
      with_reducible refine isTrue_or ?_
      ((with_reducible refine wpAny_isTrue_Compare1 ?_ ?e1); (case e1 => with_unfolding_all rfl))
      (refine nm_l (by walk_at "cx") rfl rfl rfl rfl rfl ?_)
      ((with_reducible refine' const_T ?e1 ?_); (case e1 => first | exact slash_T | exact dot_T | exact dots_T | exact empty_T | exact nl_T | exact crlf_T | exact dcrlf_T | exact a_T | exact da_T | exact ddd_T | exact ah_T | exact sdots_T))
      with_reducible refine PyProof.Rows.eq_str ?_
      with_reducible refine wpAny_truthy_bool ?_
      dsimp only
      rw [T_beq, pth_root hq.rev, isEmpty_rev]
      refine it_of rfl ?_
      with_reducible refine it_t ?_
      ((with_reducible refine ex_gen ?_); intro Qn hN hO)
      with_reducible refine wpAny_Return_some ?_
      with_reducible refine IfExp_ ?_
      ((with_reducible refine wpAny_isTrue_Compare1 ?_ ?e1); (case e1 => with_unfolding_all rfl))
      (refine nm_l (by walk_at "cx") rfl rfl rfl rfl rfl ?_)
      ((with_reducible refine' const_T ?e1 ?_); (case e1 => first | exact slash_T | exact dot_T | exact dots_T | exact empty_T | exact nl_T | exact crlf_T | exact dcrlf_T | exact a_T | exact da_T | exact ddd_T | exact ah_T | exact sdots_T))
      with_reducible refine PyProof.Rows.eq_str ?_
      with_reducible refine wpAny_truthy_bool ?_
      dsimp only
      rw [T_beq, pth_root hr.rev, isEmpty_rev]
      refine it_no rfl ?_
      with_reducible refine wpAny_Constant_int ?_
      ((with_reducible refine qot (by assumption) ?e1 ?_); (case e1 => exact fun h => nomatch h); (try clear hN hO))
      ((with_reducible refine qot (by assumption) ?e1 ?_); (case e1 => exact fun h => nomatch h); (try clear hN hO))
      dsimp only
      refine And.intro (Cx.to (by walk_at "cx")) ?_
      exact ⟨_, rfl⟩
    | cons b q =>
      by_cases e : a :: r = b :: q
      · refine it_of (by simpa using e) ?_
        ((with_reducible refine ex_gen ?_); intro Qn hN hO)
        with_reducible refine wpAny_Return_some ?_
        with_reducible refine wpAny_Constant_int ?_
        ((with_reducible refine qot (by assumption) ?e1 ?_); (case e1 => exact fun h => nomatch h); (try clear hN hO))
        ((with_reducible refine qot (by assumption) ?e1 ?_); (case e1 => exact fun h => nomatch h); (try clear hN hO))
        dsimp only
        refine And.intro (Cx.to (by walk_at "cx")) ?_
        exact ⟨_, by rw [ordR, if_pos e]⟩
      · refine it_no (by simpa using e) ?_
        with_reducible refine wpAny_execs_nil ?_
        ((with_reducible refine qnx (by assumption) ?_); (try clear hN hO))
        ((with_reducible refine ex_gen ?_); intro Qn hN hO)
        with_reducible refine wpAny_If ?_
        with_reducible refine isTrue_or ?_
        ((with_reducible refine wpAny_isTrue_Compare1 ?_ ?e1); (case e1 => with_unfolding_all rfl))
        (refine nm_l (by walk_at "cx") rfl rfl rfl rfl rfl ?_)
        ((with_reducible refine' const_T ?e1 ?_); (case e1 => first | exact slash_T | exact dot_T | exact dots_T | exact empty_T | exact nl_T | exact crlf_T | exact dcrlf_T | exact a_T | exact da_T | exact ddd_T | exact ah_T | exact sdots_T))
        with_reducible refine PyProof.Rows.eq_str ?_
        with_reducible refine wpAny_truthy_bool ?_
        rw [T_beq, pth_root hr.rev, isEmpty_rev]
        refine it_no rfl ?_
        with_reducible refine isTrue_or ?_
        ((with_reducible refine wpAny_isTrue_Compare1 ?_ ?e1); (case e1 => with_unfolding_all rfl))
        (refine nm_l (by walk_at "cx") rfl rfl rfl rfl rfl ?_)
        ((with_reducible refine' const_T ?e1 ?_); (case e1 => first | exact slash_T | exact dot_T | exact dots_T | exact empty_T | exact nl_T | exact crlf_T | exact dcrlf_T | exact a_T | exact da_T | exact ddd_T | exact ah_T | exact sdots_T))
        with_reducible refine PyProof.Rows.eq_str ?_
        with_reducible refine wpAny_truthy_bool ?_
        dsimp only
        rw [T_beq, pth_root hq.rev, isEmpty_rev]
        refine it_no rfl ?_
        with_reducible refine isTrue_or_nil ?_
        with_reducible refine it_f ?_
        with_reducible refine wpAny_execs_nil ?_
        ((with_reducible refine qnx (by assumption) ?_); (try clear hN hO))
        ((with_reducible refine ex_gen ?_); intro Qn hN hO)
        ((with_reducible refine wpAny_Assign_Name ?_ ?e1); (case e1 => exact rfl))
        (with_reducible refine nm_call ?_)
        (refine nm_g (by walk_at "cx") rfl rfl rfl rfl rfl ?_)
        (refine' cu2 ?e1 ?e2 ?_); (case e1 => exact rfl); (case e2 => exact rfl)
        (with_reducible refine nm_call ?_)
        (refine nm_g (by walk_at "cx") rfl rfl rfl rfl rfl ?_)
        (refine' cu1 ?e1 ?e2 ?_); (case e1 => exact rfl); (case e2 => exact rfl)
        (refine nm_l (by walk_at "cx") rfl rfl rfl rfl rfl ?_)
        ((with_reducible refine And.intro ?k1 ?_); (case k1 => exact Cx.k (by walk_at "cx")))
        have hr' : GL (r.reverse ++ [a]) := by rw [← List.reverse_cons]; exact hr.rev
        have hq' : GL (q.reverse ++ [b]) := by rw [← List.reverse_cons]; exact hq.rev
        have o1 : ∀ env, Ok (k + r.length + 4) (A.deeper env) := fun env => Ok.deeper (k := k + r.length + 4) (hA.mono (by simp; lia)) env
        rw [List.reverse_cons]
        refine use (by walk_at "cx") (dir_p (Cx.k (by walk_at "cx")) (Ok.mono (j := k + r.length + 2 + 2) (o1 _) (by lia)) hr' (by simp at l1 ⊢; lia)) fun v1 g1 s1 e1 p1 C1 => ?_
        obtain ⟨t1, rfl⟩ := p1
        (with_reducible refine nm_call ?_)
        (refine nm_g (by walk_at "cx") rfl rfl rfl rfl rfl ?_)
        (refine' cu1 ?e1 ?e2 ?_); (case e1 => exact rfl); (case e2 => exact rfl)
        (refine nm_l (by walk_at "cx") rfl rfl rfl rfl rfl ?_)
        ((with_reducible refine And.intro ?k1 ?_); (case k1 => exact Cx.k (by walk_at "cx")))
        rw [List.reverse_cons]
        refine use (by walk_at "cx") (dir_p (Cx.k (by walk_at "cx")) (Ok.mono (j := k + r.length + 2 + 2) (o1 _) (by lia)) hq' (by simp at l2 ⊢; lia)) fun v2 g2 s2 e2 p2 C2 => ?_
        obtain ⟨t2, rfl⟩ := p2
        ((with_reducible refine And.intro ?k1 ?_); (case k1 => exact Cx.k (by walk_at "cx")))
        refine use (by walk_at "cx") (ih q _ _ k _ _ (Cx.k (by walk_at "cx")) (o1 _) hr.tl hq.tl (by simp at l1; lia) (by simp at l2; lia)) fun v3 g3 s3 e3 p3 C3 => ?_
        obtain ⟨t3, rfl⟩ := p3
        (((with_reducible refine st_l (by walk_at "cx") ?e1 ?e2 ?e3 ?_); (case e1 => exact rfl); (case e2 => exact rfl); (case e3 => exact rfl); intro _ _))
        ((with_reducible refine qnx (by assumption) ?_); (try clear hN hO))
        ((with_reducible refine ex_gen ?_); intro Qn hN hO)
        with_reducible refine wpAny_If ?_
        ((with_reducible refine wpAny_isTrue_Compare1 ?_ ?e1); (case e1 => with_unfolding_all rfl))
        (refine nm_l (by walk_at "cx") rfl rfl rfl rfl rfl ?_)
        with_reducible refine wpAny_Constant_int ?_
        refine ne_int ?_
        with_reducible refine wpAny_truthy_bool ?_
        by_cases h0 : ordR r q ≠ 0
        · refine it_of (by simpa using h0) ?_
          ((with_reducible refine ex_gen ?_); intro Qn hN hO)
          with_reducible refine wpAny_Return_some ?_
          (refine nm_l (by walk_at "cx") rfl rfl rfl rfl rfl ?_)
          ((with_reducible refine qot (by assumption) ?e1 ?_); (case e1 => exact fun h => nomatch h); (try clear hN hO))
          ((with_reducible refine qot (by assumption) ?e1 ?_); (case e1 => exact fun h => nomatch h); (try clear hN hO))
          dsimp only
          refine And.intro (Cx.to (by walk_at "cx")) ?_
          exact ⟨_, by rw [ordR, if_neg e, if_pos h0]⟩
        · refine it_no (by simpa using h0) ?_
          with_reducible refine wpAny_execs_nil ?_
          ((with_reducible refine qnx (by assumption) ?_); (try clear hN hO))
          ((with_reducible refine ex_gen ?_); intro Qn hN hO)
          with_reducible refine wpAny_Return_some ?_
          with_reducible refine IfExp_ ?_
          ((with_reducible refine wpAny_isTrue_Compare1 ?_ ?e1); (case e1 => with_unfolding_all rfl))
          (with_reducible refine nm_call ?_)
          (refine nm_g (by walk_at "cx") rfl rfl rfl rfl rfl ?_)
          (refine' cu1 ?e1 ?e2 ?_); (case e1 => exact rfl); (case e2 => exact rfl)
          (with_reducible refine nm_call ?_)
          (refine nm_g (by walk_at "cx") rfl rfl rfl rfl rfl ?_)
          (refine' cu1 ?e1 ?e2 ?_); (case e1 => exact rfl); (case e2 => exact rfl)
          (refine nm_l (by walk_at "cx") rfl rfl rfl rfl rfl ?_)
          ((with_reducible refine And.intro ?k1 ?_); (case k1 => exact Cx.k (by walk_at "cx")))
          rw [List.reverse_cons]
          refine use (by walk_at "cx") (base_p (Cx.k (by walk_at "cx")) (Ok.mono (j := k + r.length + 2 + 2) (o1 _) (by lia)) hr' (by simp at l1 ⊢; lia)) fun v4 g4 s4 e4 p4 C4 => ?_
          obtain ⟨t4, rfl⟩ := p4
          ((with_reducible refine And.intro ?k1 ?_); (case k1 => exact Cx.k (by walk_at "cx")))
          refine use (by walk_at "cx") (quo_p (Cx.k (by walk_at "cx")) (Ok.mono (j := k + r.length + 2 + 2) (o1 _) (by lia)) (hr a (.head _))) fun v5 g5 s5 e5 p5 C5 => ?_
          obtain ⟨t5, rfl⟩ := p5
          (with_reducible refine nm_call ?_)
          (refine nm_g (by walk_at "cx") rfl rfl rfl rfl rfl ?_)
          (refine' cu1 ?e1 ?e2 ?_); (case e1 => exact rfl); (case e2 => exact rfl)
          (with_reducible refine nm_call ?_)
          (refine nm_g (by walk_at "cx") rfl rfl rfl rfl rfl ?_)
          (refine' cu1 ?e1 ?e2 ?_); (case e1 => exact rfl); (case e2 => exact rfl)
          (refine nm_l (by walk_at "cx") rfl rfl rfl rfl rfl ?_)
          ((with_reducible refine And.intro ?k1 ?_); (case k1 => exact Cx.k (by walk_at "cx")))
          rw [List.reverse_cons]
          refine use (by walk_at "cx") (base_p (Cx.k (by walk_at "cx")) (Ok.mono (j := k + r.length + 2 + 2) (o1 _) (by lia)) hq' (by simp at l2 ⊢; lia)) fun v6 g6 s6 e6 p6 C6 => ?_
          obtain ⟨t6, rfl⟩ := p6
          ((with_reducible refine And.intro ?k1 ?_); (case k1 => exact Cx.k (by walk_at "cx")))
          refine use (by walk_at "cx") (quo_p (Cx.k (by walk_at "cx")) (Ok.mono (j := k + r.length + 2 + 2) (o1 _) (by lia)) (hq b (.head _))) fun v7 g7 s7 e7 p7 C7 => ?_
          obtain ⟨t7, rfl⟩ := p7
          with_reducible refine PyProof.Rows.lt_str ?_
          with_reducible refine wpAny_truthy_bool ?_
          dsimp only
          have eab : decide ((T (quo a)).cps.toList < (T (quo b)).cps.toList) = decide (quo a < quo b) := by simp only [toList_T]
          rw [eab]
          by_cases h5 : quo a < quo b
          · refine it_of (by simpa using h5) ?_
            with_reducible refine UnaryOp_ ?_
            with_reducible refine wpAny_Constant_int ?_
            with_reducible refine neg_int ?_
            ((with_reducible refine qot (by assumption) ?e1 ?_); (case e1 => exact fun h => nomatch h); (try clear hN hO))
            dsimp only
            refine And.intro (Cx.to (by walk_at "cx")) ?_
            exact ⟨_, by rw [ordR, if_neg e, if_neg h0, if_pos h5]⟩
          · refine it_no (by simpa using h5) ?_
            with_reducible refine wpAny_Constant_int ?_
            ((with_reducible refine qot (by assumption) ?e1 ?_); (case e1 => exact fun h => nomatch h); (try clear hN hO))
            dsimp only
            refine And.intro (Cx.to (by walk_at "cx")) ?_
            exact ⟨_, by rw [ordR, if_neg e, if_neg h0, if_neg h5]⟩
end PartB2

section PartB3
noncomputable def Cp (l : List Nat) : Prop := ∀ c ∈ l, c < 0x110000
noncomputable def Sd (x : List Nat) : PyData := .str (T x)
noncomputable def Ld (xs : List (List Nat)) : PyData := .list (xs.map Sd)
noncomputable def LL (xss : List (List (List Nat))) : PyData := .list (xss.map Ld)
theorem lay_Sd {x : List Nat} (h : Cp x) : (Sd x).canLay0 = true := by
  simp only [Sd, PyData.canLay0, PyData.strOk, T]
  rw [← Array.all_toList, List.all_eq_true]
  intro c hc
  exact decide_eq_true (h c (by simpa using hc))
theorem lay_Sds : ∀ {xs : List (List Nat)}, (∀ x ∈ xs, Cp x) → PyData.canLayAll0 (xs.map Sd) = true
  | [], _ => rfl
  | x :: r, h => by
    show (_ && _) = true
    rw [lay_Sd (h x (.head _)), lay_Sds fun y hy => h y (.tail _ hy)]; rfl
theorem lay_Ld {xs : List (List Nat)} (h : ∀ x ∈ xs, Cp x) : (Ld xs).canLay0 = true := lay_Sds h
theorem lay_Lds : ∀ {xss : List (List (List Nat))}, (∀ xs ∈ xss, ∀ x ∈ xs, Cp x) → PyData.canLayAll0 (xss.map Ld) = true
  | [], _ => rfl
  | x :: r, h => by
    show (_ && _) = true
    rw [lay_Ld (h x (.head _)), lay_Lds fun y hy => h y (.tail _ hy)]; rfl
theorem dep_Sds (xs : List (List Nat)) : PyData.depthAll (xs.map Sd) ≤ 1 := by
  induction xs with
  | nil => exact Nat.zero_le _
  | cons x r ih => exact Nat.max_le.mpr ⟨by show PyData.depth (.str _) ≤ 1; simp [PyData.depth], ih⟩
theorem dep_Ld (xs : List (List Nat)) : (Ld xs).depth ≤ 2 := Nat.succ_le_succ (dep_Sds xs)
theorem dep_Sd (x : List Nat) : (Sd x).depth ≤ 1 := by show PyData.depth (.str _) ≤ 1; simp [PyData.depth]
theorem eqv_Sd (x y : List Nat) : PyData.eqv (Sd x) (Sd y) = decide (x = y) := by
  show (T x == T y) = _
  rw [T_beq, Bool.eq_iff_iff]; simp
theorem eqv_Sds : ∀ xs ys : List (List Nat), PyData.eqvAll (xs.map Sd) (ys.map Sd) = decide (xs = ys)
  | [], [] => rfl
  | [], _ :: _ => rfl
  | _ :: _, [] => rfl
  | x :: r, y :: q => by
    show (PyData.eqv (Sd x) (Sd y) && PyData.eqvAll (r.map Sd) (q.map Sd)) = _
    rw [eqv_Sd, eqv_Sds r q]; simp
theorem eqv_Ld (xs ys : List (List Nat)) : PyData.eqv (Ld xs) (Ld ys) = decide (xs = ys) := eqv_Sds xs ys
theorem rds_strs {h : Heap} : ∀ {xs : List (List Nat)} {vs : List Value}, IsStrs vs xs → ReadsAll h vs (xs.map Sd) []
  | [], vs, hv => by
    have : vs = [] := List.eq_nil_of_length_eq_zero hv.length
    subst this; exact .nil
  | x :: r, vs, hv => by
    obtain ⟨t, vs', rfl, h'⟩ := hv.cons_inv
    exact .cons (as := []) (bs := []) (.str _ _) (rds_strs h')
noncomputable def IsLists (g : Vis) : List Value → List (List (List Nat)) → Prop
  | [], [] => True
  | v :: vs, xs :: xss => (∃ a ws m, v = .ref a ∧ g a = some (lstO ws m) ∧ IsStrs ws xs) ∧ IsLists g vs xss
  | _, _ => False
theorem IsLists.mono {g g' : Vis} (e : Ext g g') : ∀ {vs : List Value} {xss : List (List (List Nat))}, IsLists g vs xss → IsLists g' vs xss
  | [], [], _ => trivial
  | v :: vs, xs :: xss, h => ⟨let ⟨a, ws, m, h1, h2, h3⟩ := h.1; ⟨a, ws, m, h1, e _ _ h2, h3⟩, IsLists.mono e h.2⟩
  | [], _ :: _, h => h.elim
  | _ :: _, [], h => h.elim
theorem IsLists.length {g : Vis} : ∀ {vs : List Value} {xss : List (List (List Nat))}, IsLists g vs xss → vs.length = xss.length
  | [], [], _ => rfl
  | v :: vs, xs :: xss, h => by rw [List.length_cons, List.length_cons, h.2.length]
  | [], _ :: _, h => h.elim
  | _ :: _, [], h => h.elim
theorem IsLists.snoc {g : Vis} : ∀ {vs : List Value} {xss : List (List (List Nat))} {a : Addr} {ws : List Value} {m : Nat} {xs : List (List Nat)}, IsLists g vs xss → g a = some (lstO ws m) → IsStrs ws xs → IsLists g (vs ++ [.ref a]) (xss ++ [xs])
  | [], [], a, ws, m, xs, _, h1, h2 => ⟨⟨a, ws, m, rfl, h1, h2⟩, trivial⟩
  | v :: vs, xs :: xss, a, ws, m, ys, h, h1, h2 => ⟨h.1, h.2.snoc h1 h2⟩
  | [], _ :: _, _, _, _, _, h, _, _ => h.elim
  | _ :: _, [], _, _, _, _, h, _, _ => h.elim
theorem IsLists.get {g : Vis} : ∀ {vs : List Value} {xss : List (List (List Nat))} {i : Nat} {xs : List (List Nat)}, IsLists g vs xss → xss[i]? = some xs → ∃ a ws m, vs[i]? = some (.ref a) ∧ g a = some (lstO ws m) ∧ IsStrs ws xs
  | [], [], i, xs, _, h => by simp at h
  | v :: vs, ys :: xss, 0, xs, h, e => by
    obtain ⟨a, ws, m, rfl, h2, h3⟩ := h.1
    obtain rfl : ys = xs := by simpa using e
    exact ⟨a, ws, m, rfl, h2, h3⟩
  | v :: vs, ys :: xss, i + 1, xs, h, e => by
    obtain ⟨a, ws, m, h1, h2, h3⟩ := h.2.get (i := i) (by simpa using e)
    exact ⟨a, ws, m, by simpa using h1, h2, h3⟩
  | [], _ :: _, _, _, h, _ => h.elim
  | _ :: _, [], _, _, h, _ => h.elim
section
variable {w : World} {A : Around} {E : Value → Shared → Prop} {s s₀ : Shared} {L : Addr} {l : List (Str × Value)} {g : Vis} {pr : List (Addr × Obj)}
theorem rds_list (C : Cx w s₀ L l g pr s) {a : Addr} {vs : List Value} {n : Nat} {xs : List (List Nat)} (ha : g a = some (lstO vs n)) (hv : IsStrs vs xs) : Reads s.heap (.ref a) (Ld xs) [a] :=
  .list (as := []) (C.at ha) rfl rfl (rds_strs hv)
theorem rds_lists (C : Cx w s₀ L l g pr s) : ∀ {vs : List Value} {xss : List (List (List Nat))}, IsLists g vs xss → ∃ as, ReadsAll s.heap vs (xss.map Ld) as
  | [], [], _ => ⟨_, .nil⟩
  | v :: vs, xs :: xss, h => by
    obtain ⟨a, ws, m, rfl, h2, h3⟩ := h.1
    obtain ⟨as, h'⟩ := rds_lists C h.2
    exact ⟨_, .cons (rds_list C h2 h3) h'⟩
  | [], _ :: _, h => h.elim
  | _ :: _, [], h => h.elim
theorem rds_LL (C : Cx w s₀ L l g pr s) {a : Addr} {vs : List Value} {n : Nat} {xss : List (List (List Nat))} (ha : g a = some (lstO vs n)) (hv : IsLists g vs xss) : ∃ as, Reads s.heap (.ref a) (LL xss) as := by
  obtain ⟨as, h⟩ := rds_lists C hv
  exact ⟨_, .list (C.at ha) rfl rfl h⟩
theorem any_Sd (xs : List (List Nat)) (x : List Nat) : ((xs.map Sd).any fun y => PyData.eqv y (Sd x)) = decide (x ∈ xs) := by
  rw [List.any_map, Bool.eq_iff_iff, List.any_eq_true, decide_eq_true_iff]
  simp only [Function.comp, eqv_Sd, decide_eq_true_eq]
  exact ⟨fun ⟨y, hy, e⟩ => e ▸ hy, fun h => ⟨x, h, rfl⟩⟩
theorem any_Ld (xs : List (List (List Nat))) (x : List (List Nat)) : ((xs.map Ld).any fun y => PyData.eqv y (Ld x)) = decide (x ∈ xs) := by
  rw [List.any_map, Bool.eq_iff_iff, List.any_eq_true, decide_eq_true_iff]
  simp only [Function.comp, eqv_Ld, decide_eq_true_eq]
  exact ⟨fun ⟨y, hy, e⟩ => e ▸ hy, fun h => ⟨x, h, rfl⟩⟩
theorem room_of {k : Nat} (hA : Ok (k + 1) A) {n d m : Nat} (hn : n ≤ 1) (hm : m ≤ 4) : A.units + n + min d m < cLine := by
  have := hA.un
  have := Nat.min_le_right d m
  unfold cLine; lia
theorem notin_strs {k : Nat} {a : Addr} {vs : List Value} {n : Nat} {xs : List (List Nat)} {x : List Nat} {t : Tok} {Q : Value → Shared → Prop} (C : Cx w s₀ L l g pr s) (ha : g a = some (lstO vs n)) (hv : IsStrs vs xs) (hA : Ok (k + 1) A)
    (hc : ∀ x ∈ xs, Cp x) (hx : Cp x) (h : Q (.bool (!decide (x ∈ xs))) s) : wpAny (model P w) A (compareOp .NotIn (.str (T x) t) (.ref a)) Q E s := by
  refine SeqAt.notIn_list_reads (xs := xs.map Sd) (d := Sd x) (rds_list C ha hv) (.str _ _) (lay_Sds hc) (lay_Sd hx) (room_of hA (Nat.le_refl _) (Nat.le_trans (dep_Sd x) (by decide))) ?_
  rw [any_Sd]; exact h
theorem notin_lists {k : Nat} {a b : Addr} {vs ws : List Value} {n m : Nat} {xss : List (List (List Nat))} {xs : List (List Nat)} {Q : Value → Shared → Prop} (C : Cx w s₀ L l g pr s) (ha : g a = some (lstO vs n)) (hv : IsLists g vs xss)
    (hb : g b = some (lstO ws m)) (hw : IsStrs ws xs) (hA : Ok (k + 1) A) (hc : ∀ xs ∈ xss, ∀ x ∈ xs, Cp x) (hx : ∀ x ∈ xs, Cp x) (h : Q (.bool (!decide (xs ∈ xss))) s) : wpAny (model P w) A (compareOp .NotIn (.ref b) (.ref a)) Q E s := by
  obtain ⟨as, r⟩ := rds_LL C ha hv
  refine SeqAt.notIn_list_reads (xs := xss.map Ld) (d := Ld xs) r (rds_list C hb hw) (lay_Lds hc) (lay_Ld hx) (room_of hA (Nat.le_refl _) (Nat.le_trans (dep_Ld xs) (by decide))) ?_
  rw [any_Ld]; exact h
theorem ne_lists {k : Nat} {a b : Addr} {vs ws : List Value} {n m : Nat} {ys xs : List (List Nat)} {Q : Value → Shared → Prop} (C : Cx w s₀ L l g pr s) (ha : g a = some (lstO vs n)) (hv : IsStrs vs ys)
    (hb : g b = some (lstO ws m)) (hw : IsStrs ws xs) (hA : Ok (k + 1) A) (hc : ∀ x ∈ ys, Cp x) (hx : ∀ x ∈ xs, Cp x) (h : Q (.bool (!decide (ys = xs))) s) : wpAny (model P w) A (compareOp .NotEq (.ref a) (.ref b)) Q E s := by
  refine SeqAt.compareNe_reads (rds_list C ha hv) (rds_list C hb hw) (lay_Ld hc) (lay_Ld hx) (room_of hA (n := 0) (by decide) (Nat.le_trans (dep_Ld xs) (by decide))) ?_
  rw [eqv_Ld]; exact h
end
end PartB3

section PartB1
theorem while_core {w : World} {A : Around} {s s₀ : Shared} {L : Addr} {l : List (Str × Value)} {g : Vis} {pr : List (Addr × Obj)} {env : Env} {test : Expr} {body : List Stmt} {R : Result → Shared → Prop}
    (J : Nat → List (Str × Value) → Vis → Prop) (n : Nat)
    (turn : ∀ i l g s, J i l g → Cx w s₀ L l g pr s → wpAny (model P w) A (isTrue test env (eval test env)) (fun b s₂ =>
        if b = true then wpAny (model P w) A (execs body env) (fun f s₃ => match f with
            | .next | .cont => ∃ j l' g', j < i ∧ J j l' g' ∧ Cx w s₀ L l' g' pr s₃
            | .brk => R (.ok .next) s₃
            | .ret v => R (.ok (.ret v)) s₃) (fun _ _ => False) s₂
        else R (.ok .next) s₂) (fun _ _ => False) s)
    (j0 : J n l g) (C : Cx w s₀ L l g pr s) : codeAny (model P w) A (.whileLoop test body [] env) R s := by
  refine codeAny_whileLoop (I := fun k s => ∃ l g, J k l g ∧ Cx w s₀ L l g pr s) ?_ n ⟨l, g, j0, C⟩
  rintro k s ⟨l, g, hj, C⟩
  refine wpAny_mono (turn k l g s hj C) (fun b s₂ h₂ => ?_) fun _ _ q => q.elim
  cases b with
  | false => exact wpAny_execs_nil h₂
  | true =>
    refine wpAny_mono h₂ (fun f s₃ h₃ => ?_) fun _ _ q => q.elim
    cases f with
    | next => obtain ⟨j, l', g', a, b, c⟩ := h₃; exact ⟨j, a, l', g', b, c⟩
    | cont => obtain ⟨j, l', g', a, b, c⟩ := h₃; exact ⟨j, a, l', g', b, c⟩
    | brk => exact h₃
    | ret v => exact h₃
theorem IsStrs.cons {vs : List Value} {xs : List (List Nat)} {x : List Nat} {t : Tok} (h : IsStrs vs xs) : IsStrs (.str (T x) t :: vs) (x :: xs) := by
  obtain ⟨l, rfl, h⟩ := h
  exact ⟨(T x, t) :: l, rfl, by simp [h]⟩
theorem item_tup {w : World} {A : Around} {E : Value → Shared → Prop} {s s₀ : Shared} {L : Addr} {l : List (Str × Value)} {g : Vis} {pr : List (Addr × Obj)} {a : Addr} {vs : List Value} {v : Value} {i : Nat} {u : Tok} {Q : Value → Shared → Prop}
    (C : Cx w s₀ L l g pr s) (ha : g a = some (tupO vs)) (hv : vs[i]? = some v) (hl : i < 100000) (h : Q v s) : ItemOn (model P w) A E (.ref a) (.int (i : Int) u) Q s := by
  have hi : i < vs.length := (List.getElem?_eq_some_iff.mp hv).1
  refine ⟨"tuple", _, PySem.F.slot_tuple_getitem.lookup, ⟨_, C.at ha, rfl⟩, PyProof.Rows.getItem_tuple (C.isTup ha) (by lia) (by lia) (j := i) ?_ (by simpa using hv) h⟩
  unfold seqIndex?
  have h1 : ¬ ((i : Int) < 0) := by lia
  simp only [h1, if_false]
  rw [if_pos (by simp; lia)]; simp
theorem item_lst {w : World} {A : Around} {E : Value → Shared → Prop} {s s₀ : Shared} {L : Addr} {l : List (Str × Value)} {g : Vis} {pr : List (Addr × Obj)} {a : Addr} {vs : List Value} {v : Value} {i n : Nat} {u : Tok} {Q : Value → Shared → Prop}
    (C : Cx w s₀ L l g pr s) (ha : g a = some (lstO vs n)) (hv : vs[i]? = some v) (hl : i < 100000) (h : Q v s) : ItemOn (model P w) A E (.ref a) (.int (i : Int) u) Q s :=
  ⟨"list", _, PySem.F.slot_list_getitem.lookup, ⟨_, C.at ha, rfl⟩, wpAny_getItem_list (C.isList ha) (by lia) (by lia) (by simpa using hv) h⟩
theorem sub_ {w : World} {A : Around} {E : Value → Shared → Prop} {s : Shared} {env : Env} {value slice : Expr} {pos : Pos} {Q : Value → Shared → Prop}
    (h : wpAny (model P w) A (eval value env) (fun o s₁ => wpAny (model P w) A (eval slice env) (fun i s₂ => ItemOn (model P w) A E o i Q s₂) E s₁) E s)
    (hs : ∀ o i, subscripted slice false o i = operate [o, i] (getItem o i)) : wpAny (model P w) A (eval (.Subscript value slice pos) env) Q E s := by
  refine Subscript_ (wpAny_mono h (fun o s₁ h₁ => wpAny_mono h₁ (fun i s₂ h₂ => ?_) fun _ _ q => q) fun _ _ q => q)
  obtain ⟨T, id, hl, hT, hg⟩ := h₂
  unfold subscriptTail
  refine wpAny_bind ?_
  rw [getitemInPython_of_ne hT.not_modules]
  refine wpAny_bind (wpAny_specialOf hT hl ?_)
  have fin : wpAny (model P w) A (subscripted slice false o i) (fun r s₃ => wpAny (model P w) A (letTemporaryGo value o r >>= fun _ => pure r) Q E s₃) E s₂ := by
    rw [hs]
    exact wpAny_operating (wpAny_mono hg (fun r s₃ h₃ => wpAny_bind (wpAny_letTemporaryGo (wpAny_pure h₃))) fun _ _ x => x)
  first
    | exact wpAny_pure (wpAny_bind fin)
    | exact wpAny_bind (wpAny_pure (wpAny_bind fin))
    | exact wpAny_bind fin
noncomputable def tbl (far : Nat) : List (List Nat) := [[], [97], [46, 97], [46, 46], [46, 46, 46], [97, 45], [46], [far]]
theorem tbl_get {t0 t1 t2 t3 t4 t5 t6 t7 : Tok} (far : Nat) {i : Nat} (hi : i < 8) : ∃ tk, [Value.str (T []) t0, .str (T [97]) t1, .str (T [46, 97]) t2, .str (T [46, 46]) t3, .str (T [46, 46, 46]) t4, .str (T [97, 45]) t5, .str (T [46]) t6, .str (T [far]) t7][i]? = some (.str (T ((tbl far).getD i [])) tk) :=
  IsStrs.get (xs := tbl far) (IsStrs.cons (IsStrs.cons (IsStrs.cons (IsStrs.cons (IsStrs.cons (IsStrs.cons (IsStrs.cons (IsStrs.cons .nil)))))))) (by
    rw [List.getD_eq_getElem?_getD, List.getElem?_eq_getElem (by simpa [tbl] using hi)]; rfl)
theorem item_tupE {w : World} {A : Around} {E : Value → Shared → Prop} {s s₀ : Shared} {L : Addr} {l : List (Str × Value)} {g : Vis} {pr : List (Addr × Obj)} {a : Addr} {vs : List Value} {i : Nat} {u : Tok} {Q : Value → Shared → Prop}
    (C : Cx w s₀ L l g pr s) (ha : g a = some (tupO vs)) (hl : i < 100000) (h : ∃ v, vs[i]? = some v ∧ Q v s) : ItemOn (model P w) A E (.ref a) (.int (i : Int) u) Q s :=
  let ⟨_, h1, h2⟩ := h
  item_tup C ha h1 hl h2
noncomputable def turns : Nat → Nat → List (List Nat)
  | 0, _ => []
  | k + 1, m => (tbl (256 + m / 8 % 50000)).getD (m % 8) [] :: turns k (m / 8)
theorem fd8 (m : Nat) : Int.fdiv (m : Int) 8 = ((m / 8 : Nat) : Int) := by rw [Int.fdiv_eq_ediv_of_nonneg _ (by decide)]; rfl
theorem fm8 (m : Nat) : Int.fmod (m : Int) 8 = ((m % 8 : Nat) : Int) := by rw [Int.fmod_eq_emod_of_nonneg _ (by decide)]; rfl
theorem fm5 (m : Nat) : Int.fmod (m : Int) 50000 = ((m % 50000 : Nat) : Int) := by rw [Int.fmod_eq_emod_of_nonneg _ (by decide)]; rfl
theorem turns_c {w A s k} {n : Int} {t : Tok} (kin : (K2 w.params).In s.heap) (hA : Ok (k+2) A) :
    Spec w A 200 [.int n t] (fun v g g' => ∃ a vs m, v = .ref a ∧ g a = none ∧ g' a = some (lstO vs m) ∧ IsStrs vs (turns 3 n.natAbs)) s := by
  refine enter (binds := [("n", .int n t)]) kin hA rfl rfl rfl rfl rfl rfl rfl rfl rfl fun L s' C => ?_
  ((with_reducible refine ex_gen ?_); intro Qn hN hO)
  ((with_reducible refine wpAny_Assign_Name ?_ ?e1); (case e1 => exact rfl))
  with_reducible refine lst_ ?_
  with_reducible refine wpAny_items_nil ?_
  refine ⟨by (decide), by walk_at "cx", fun a s1 ha ha0 C1 => ?_⟩
  (((with_reducible refine st_l (by walk_at "cx") ?e1 ?e2 ?e3 ?_); (case e1 => exact rfl); (case e2 => exact rfl); (case e3 => exact rfl); intro _ _))
  ((with_reducible refine qnx (by assumption) ?_); (try clear hN hO))
  ((with_reducible refine ex_gen ?_); intro Qn hN hO)
  ((with_reducible refine wpAny_Assign_Name ?_ ?e1); (case e1 => exact rfl))
  (with_reducible refine nm_call ?_)
  (refine nm_b (by walk_at "cx") rfl rfl rfl rfl rfl rfl rfl ?_)
  (refine' cb1 ?e2 ?_); (case e2 => exact rfl)
  (refine nm_l (by walk_at "cx") rfl rfl rfl rfl rfl ?_)
  refine call_abs_int fun u tk => ?_
  have en : (if n < 0 then -n else n) = (n.natAbs : Int) := by split <;> lia
  rw [en]
  (((with_reducible refine st_l (by walk_at "cx") ?e1 ?e2 ?e3 ?_); (case e1 => exact rfl); (case e2 => exact rfl); (case e3 => exact rfl); intro _ _))
  ((with_reducible refine qnx (by assumption) ?_); (try clear hN hO))
  ((with_reducible refine ex_gen ?_); intro Qn hN hO)
  refine wpAny_While ?_
  rename_i C2
  have Cn := C2.nrm [("left", .int (n.natAbs : Int) u), ("turns", .ref a)] ⟨rfl, rfl, trivial⟩
  refine while_core (fun i l g => ∃ u mi dn vs m, l = ([("left", .int ((mi : Nat) : Int) u), ("turns", .ref a)] : List (Str × Value)) ∧ g a = some (lstO vs m) ∧ IsStrs vs dn ∧ dn.length + i = 3 ∧ dn ++ turns i mi = turns 3 n.natAbs)
    3 ?_ ⟨u, n.natAbs, [], [], 0, rfl, put_self _ _ _, .nil, rfl, rfl⟩ Cn
  rintro i l g s3 ⟨u, mi, dn, vs, m, rfl, hg, hvs, hlen, hall⟩ C3
  ((with_reducible refine wpAny_isTrue_Compare1 ?_ ?e1); (case e1 => with_unfolding_all rfl))
  (with_reducible refine nm_call ?_)
  (refine nm_b (by walk_at "cx") rfl rfl rfl rfl rfl rfl rfl ?_)
  (refine' cb1 ?e2 ?_); (case e2 => exact rfl)
  (refine nm_l (by walk_at "cx") rfl rfl rfl rfl rfl ?_)
  dsimp only
  refine Calls.call_len_list (C3.isList hg) (by have := hvs.length; simp; lia) ?_
  with_reducible refine wpAny_Constant_int ?_
  dsimp only
  refine lt_int ?_
  have hsz : vs.toArray.size = dn.length := by simp [hvs.length]
  rw [hsz]
  with_reducible refine wpAny_truthy_bool ?_
  cases i with
  | zero =>
    rw [decide_eq_false (by lia), if_neg (by decide)]
    rename_i C4
    ((with_reducible refine qnx (by assumption) ?_); (try clear hN hO))
    ((with_reducible refine ex_gen ?_); intro Qn hN hO)
    with_reducible refine wpAny_Return_some ?_
    (refine nm_l (by walk_at "cx") rfl rfl rfl rfl rfl ?_)
    ((with_reducible refine qot (by assumption) ?e1 ?_); (case e1 => exact fun h => nomatch h); (try clear hN hO))
    dsimp only
    refine And.intro (Cx.to (by walk_at "cx")) ?_
    exact ⟨a, vs, m, rfl, ha, by rw [C3.vis]; exact hg, by rw [← hall]; simpa [turns] using hvs⟩
  | succ i =>
    rw [decide_eq_true (by lia), if_pos rfl]
    ((with_reducible refine ex_gen ?_); intro Qn hN hO)
    ((with_reducible refine wpAny_Assign_Name ?_ ?e1); (case e1 => exact rfl))
    (with_reducible refine nm_call ?_)
    (refine nm_b (by walk_at "cx") rfl rfl rfl rfl rfl rfl rfl ?_)
    (refine' cb1 ?e2 ?_); (case e2 => exact rfl)
    with_reducible refine wpAny_BinOp ?_
    with_reducible refine wpAny_Constant_int ?_
    with_reducible refine wpAny_BinOp ?_
    with_reducible refine wpAny_BinOp ?_
    dsimp only
    (refine nm_l (by walk_at "cx") rfl rfl rfl rfl rfl ?_)
    with_reducible refine wpAny_Constant_int ?_
    dsimp only
    refine floordiv_int (by decide) ?_
    rw [fd8]
    with_reducible refine wpAny_Constant_int ?_
    dsimp only
    refine mod_int (by decide) ?_
    rw [fm5]
    with_reducible refine add_int ?_
    dsimp only
    have hfar : mi / 8 % 50000 < 50000 := Nat.mod_lt _ (by decide)
    refine chr_of_range (by lia) (by lia) ?_
    have ech : (⟨#[(256 + ((mi / 8 % 50000 : Nat) : Int)).toNat]⟩ : Str) = T [256 + mi / 8 % 50000] := by
      rw [show (256 + ((mi / 8 % 50000 : Nat) : Int)).toNat = 256 + mi / 8 % 50000 by lia]
    rw [ech]
    dsimp only
    (((with_reducible refine st_l (by walk_at "cx") ?e1 ?e2 ?e3 ?_); (case e1 => exact rfl); (case e2 => exact rfl); (case e3 => exact rfl); intro _ _))
    ((with_reducible refine qnx (by assumption) ?_); (try clear hN hO))
    ((with_reducible refine ex_gen ?_); intro Qn hN hO)
    ((with_reducible refine wpAny_Expr ?_ ?e1 ?e2); (case e1 => exact rfl); (case e2 => exact rfl))
    (refine' Call_method1 ?e1 ?e2 ?e3 ?_); (case e1 => exact rfl); (case e2 => exact rfl); (case e3 => exact rfl)
    (refine nm_l (by walk_at "cx") rfl rfl rfl rfl rfl ?_)
    refine m_append (by walk_at "cx") hg ?_
    refine sub_ ?_ (fun _ _ => rfl)
    with_reducible refine tup_ ?_
    ((with_reducible refine wpAny_items_cons ?_ ?e1); (case e1 => exact rfl))
    ((with_reducible refine' const_T ?e1 ?_); (case e1 => first | exact slash_T | exact dot_T | exact dots_T | exact empty_T | exact nl_T | exact crlf_T | exact dcrlf_T | exact a_T | exact da_T | exact ddd_T | exact ah_T | exact sdots_T))
    ((with_reducible refine wpAny_items_cons ?_ ?e1); (case e1 => exact rfl))
    ((with_reducible refine' const_T ?e1 ?_); (case e1 => first | exact slash_T | exact dot_T | exact dots_T | exact empty_T | exact nl_T | exact crlf_T | exact dcrlf_T | exact a_T | exact da_T | exact ddd_T | exact ah_T | exact sdots_T))
    ((with_reducible refine wpAny_items_cons ?_ ?e1); (case e1 => exact rfl))
    ((with_reducible refine' const_T ?e1 ?_); (case e1 => first | exact slash_T | exact dot_T | exact dots_T | exact empty_T | exact nl_T | exact crlf_T | exact dcrlf_T | exact a_T | exact da_T | exact ddd_T | exact ah_T | exact sdots_T))
    ((with_reducible refine wpAny_items_cons ?_ ?e1); (case e1 => exact rfl))
    ((with_reducible refine' const_T ?e1 ?_); (case e1 => first | exact slash_T | exact dot_T | exact dots_T | exact empty_T | exact nl_T | exact crlf_T | exact dcrlf_T | exact a_T | exact da_T | exact ddd_T | exact ah_T | exact sdots_T))
    ((with_reducible refine wpAny_items_cons ?_ ?e1); (case e1 => exact rfl))
    ((with_reducible refine' const_T ?e1 ?_); (case e1 => first | exact slash_T | exact dot_T | exact dots_T | exact empty_T | exact nl_T | exact crlf_T | exact dcrlf_T | exact a_T | exact da_T | exact ddd_T | exact ah_T | exact sdots_T))
    ((with_reducible refine wpAny_items_cons ?_ ?e1); (case e1 => exact rfl))
    ((with_reducible refine' const_T ?e1 ?_); (case e1 => first | exact slash_T | exact dot_T | exact dots_T | exact empty_T | exact nl_T | exact crlf_T | exact dcrlf_T | exact a_T | exact da_T | exact ddd_T | exact ah_T | exact sdots_T))
    ((with_reducible refine wpAny_items_cons ?_ ?e1); (case e1 => exact rfl))
    ((with_reducible refine' const_T ?e1 ?_); (case e1 => first | exact slash_T | exact dot_T | exact dots_T | exact empty_T | exact nl_T | exact crlf_T | exact dcrlf_T | exact a_T | exact da_T | exact ddd_T | exact ah_T | exact sdots_T))
    ((with_reducible refine wpAny_items_cons ?_ ?e1); (case e1 => exact rfl))
    dsimp only
    (refine nm_l (by walk_at "cx") rfl rfl rfl rfl rfl ?_)
    with_reducible refine wpAny_items_nil ?_
    refine ⟨by ((show _ ≤ 16777216; simp; done)), by walk_at "cx", fun tp s6 htp htp0 C6 => ?_⟩
    with_reducible refine wpAny_BinOp ?_
    (refine nm_l (by walk_at "cx") rfl rfl rfl rfl rfl ?_)
    with_reducible refine wpAny_Constant_int ?_
    refine mod_int (by decide) ?_
    rw [fm8]
    have hm8 : mi % 8 < 8 := Nat.mod_lt _ (by decide)
    refine item_tupE ((C6.tok _).tok _) (put_self _ _ _) (by lia) ?_
    refine (tbl_get (256 + mi / 8 % 50000) hm8).elim fun tk htk => ⟨_, htk, ?_⟩
    have hne : a ≠ tp := Ext.ne hg htp
    have C7 := (C6.tok (s6.toks + 1)).tok (s6.toks + 1 + 1)
    refine ⟨C7, (put_ne _ _ hne).trans hg, by have := hvs.length; lia, ha0, fun s9 C9 => ?_⟩
    ((with_reducible refine qnx (by assumption) ?_); (try clear hN hO))
    ((with_reducible refine ex_gen ?_); intro Qn hN hO)
    (with_reducible refine wpAny_AugAssign_Name ?_)
    (refine ld_l (by walk_at "cx") rfl rfl rfl rfl ?_)
    with_reducible refine wpAny_Constant_int ?_
    refine ifloordiv_int (by decide) ?_
    rw [fd8]
    dsimp only
    (((with_reducible refine st_l (by walk_at "cx") ?e1 ?e2 ?e3 ?_); (case e1 => exact rfl); (case e2 => exact rfl); (case e3 => exact rfl); intro _ _))
    ((with_reducible refine qnx (by assumption) ?_); (try clear hN hO))
    with_reducible refine wpAny_execs_nil ?_
    dsimp only
    rename_i C10
    refine ⟨i, _, _, Nat.lt_succ_self _, ⟨_, mi / 8, dn ++ [(tbl (256 + mi / 8 % 50000)).getD (mi % 8) []], _, _, rfl, put_self _ _ _, hvs.snoc, by simp; lia, ?_⟩, C10.nrm _ ⟨rfl, rfl, trivial⟩⟩
    rw [← hall, turns, List.append_assoc]; rfl
end PartB1

section PartPx2
noncomputable def TOk (t : List Nat) : Prop := t = [] ∨ t = [46] ∨ t = [46, 46] ∨ GN t
theorem TOk.sl {t : List Nat} (h : TOk t) : 47 ∉ t := by
  rcases h with rfl | rfl | rfl | h
  · simp
  · simp
  · simp
  · exact h.sl
theorem TOk.len {t : List Nat} (h : TOk t) : t.length ≤ 3 := by
  rcases h with rfl | rfl | rfl | h
  · simp
  · simp
  · simp
  · exact h.len
theorem tbl_ok {far : Nat} (h : 256 ≤ far) : ∀ t ∈ tbl far, TOk t := by
  intro t ht
  simp only [tbl, List.mem_cons, List.not_mem_nil, or_false] at ht
  rcases ht with rfl | rfl | rfl | rfl | rfl | rfl | rfl | rfl
  · exact .inl rfl
  · exact .inr (.inr (.inr ⟨by simp, by simp, by simp, by simp, by simp, by simp, by simp⟩))
  · exact .inr (.inr (.inr ⟨by simp, by simp, by simp, by simp, by simp, by simp, by simp⟩))
  · exact .inr (.inr (.inl rfl))
  · exact .inr (.inr (.inr ⟨by simp, by simp, by simp, by simp, by simp, by simp, by simp⟩))
  · exact .inr (.inr (.inr ⟨by simp, by simp, by simp, by simp, by simp, by simp, by simp⟩))
  · exact .inr (.inl rfl)
  · exact .inr (.inr (.inr ⟨by simp, by simp; lia, by simp; lia, by simp; lia, by simp, by simp; lia, by simp⟩))
theorem turns_len : ∀ k m, (turns k m).length = k
  | 0, _ => rfl
  | k + 1, m => by rw [turns, List.length_cons, turns_len k]
theorem getD_mem {α : Type} {l : List α} {i : Nat} {d : α} (h : i < l.length) : l.getD i d ∈ l := by
  rw [List.getD_eq_getElem?_getD, List.getElem?_eq_getElem h]
  exact List.getElem_mem h
theorem turns_mem {P : List Nat → Prop} (h : ∀ far, 256 ≤ far → far < 50256 → ∀ t ∈ tbl far, P t) : ∀ k m, ∀ t ∈ turns k m, P t
  | 0, _, _, h => nomatch h
  | k + 1, m, t, ht => by
    rw [turns] at ht
    rcases List.mem_cons.mp ht with rfl | ht
    · have := Nat.mod_lt (m / 8) (y := 50000) (by decide)
      exact h (256 + m / 8 % 50000) (by lia) (by lia) _ (getD_mem (by have := Nat.mod_lt m (y := 8) (by decide); simpa [tbl] using this))
    · exact turns_mem h k _ t ht
theorem turns_ok (k m : Nat) : ∀ t ∈ turns k m, TOk t := turns_mem (fun far h _ => tbl_ok h) k m
theorem turns_cp (k m : Nat) : ∀ t ∈ turns k m, Cp t := turns_mem (fun far h h2 t ht => by
  simp only [tbl, List.mem_cons, List.not_mem_nil, or_false] at ht
  rcases ht with rfl | rfl | rfl | rfl | rfl | rfl | rfl | rfl <;> (unfold Cp; simp) <;> lia) k m
noncomputable def walk (ts : List (List Nat)) : List (List Nat) := ts.foldl nst []
theorem nst_GL {acc : List (List Nat)} {c : List Nat} (h : GL acc) (hc : TOk c) : GL (nst acc c) := by
  unfold nst
  split
  · exact h
  · split
    · exact fun a ha => h a (List.dropLast_subset _ ha)
    · rename_i h1 h2
      intro a ha
      rcases List.mem_append.mp ha with ha | ha
      · exact h a ha
      · rw [List.mem_singleton.mp ha]
        rcases hc with rfl | rfl | rfl | hc
        · simp at h1
        · simp at h1
        · simp at h2
        · exact hc
theorem fold_GL : ∀ (ts acc : List (List Nat)), GL acc → (∀ t ∈ ts, TOk t) → GL (ts.foldl nst acc)
  | [], _, h, _ => h
  | t :: r, acc, h, ht => fold_GL r _ (nst_GL h (ht t (.head _))) fun t m => ht t (.tail _ m)
theorem walk_GL {ts : List (List Nat)} (h : ∀ t ∈ ts, TOk t) : GL (walk ts) := fold_GL ts [] (fun _ h => nomatch h) h
theorem walk_len (ts : List (List Nat)) : (walk ts).length ≤ ts.length := by
  show (ts.foldl nst []).length ≤ _
  simpa using nst_len ts []
theorem nst_cp {acc : List (List Nat)} {c : List Nat} (h : ∀ a ∈ acc, Cp a) (hc : Cp c) : ∀ a ∈ nst acc c, Cp a := by
  unfold nst
  split
  · exact h
  · split
    · exact fun a ha => h a (List.dropLast_subset _ ha)
    · intro a ha
      rcases List.mem_append.mp ha with ha | ha
      · exact h a ha
      · rw [List.mem_singleton.mp ha]; exact hc
theorem fold_cp : ∀ (ts acc : List (List Nat)), (∀ a ∈ acc, Cp a) → (∀ t ∈ ts, Cp t) → ∀ a ∈ ts.foldl nst acc, Cp a
  | [], _, h, _ => h
  | t :: r, acc, h, ht => fold_cp r _ (nst_cp h (ht t (.head _))) fun t m => ht t (.tail _ m)
theorem walk_cp {ts : List (List Nat)} (h : ∀ t ∈ ts, Cp t) : ∀ a ∈ walk ts, Cp a := fold_cp ts [] (fun _ h => nomatch h) h
theorem inter_cp : ∀ {ns : List (List Nat)}, (∀ a ∈ ns, Cp a) → Cp (inter 47 ns)
  | [], _ => fun _ h => nomatch h
  | [a], h => h a (.head _)
  | a :: b :: r, h => by
    rw [inter_cons 47 a (by simp)]
    intro c hc
    rcases List.mem_append.mp hc with hc | hc
    · exact h a (.head _) c hc
    · rcases List.mem_cons.mp hc with rfl | hc
      · decide
      · exact inter_cp (fun x m => h x (.tail _ m)) c hc
theorem pth_cp {ns : List (List Nat)} (h : ∀ a ∈ ns, Cp a) : Cp (pth ns) := by
  intro c hc
  rcases List.mem_cons.mp hc with rfl | hc
  · decide
  · exact inter_cp h c hc
theorem norm_eq {ts : List (List Nat)} (hne : ts ≠ []) (h : ∀ t ∈ ts, TOk t) : 47 :: inter 47 ((spl 47 (46 :: 47 :: inter 47 ts)).foldl nst []) = pth (walk ts) := by
  have e := spl_app 47 (a := [46]) (r := inter 47 ts) (by simp)
  rw [show (46 :: 47 :: inter 47 ts : List Nat) = [46] ++ 47 :: inter 47 ts from rfl, e, spl_inter 47 hne fun t m => (h t m).sl]
  rfl
noncomputable def climbR : List (List (List Nat)) → List (List Nat) → List (List (List Nat))
  | ps, [] => ps
  | ps, a :: r => if (a :: r).reverse ∈ ps then ps else climbR (ps ++ [(a :: r).reverse]) r
noncomputable def placesOf (ds : List (List (List Nat))) : List (List (List Nat)) := ds.foldl (fun ps ts => climbR ps (walk ts).reverse) [[]]
/-- what the places are -/
structure Good (ns : List (List Nat)) : Prop where
  gl : GL ns
  cp : ∀ a ∈ ns, Cp a
theorem Good.rtl {a : List Nat} {r : List (List Nat)} (h : Good (a :: r).reverse) : Good r.reverse :=
  ⟨fun x hx => h.gl x (by rw [List.reverse_cons]; exact List.mem_append_left _ hx), fun x hx => h.cp x (by rw [List.reverse_cons]; exact List.mem_append_left _ hx)⟩
theorem Good.nil : Good [] := ⟨(fun _ h => nomatch h), (fun _ h => nomatch h)⟩
theorem walk_good {ts : List (List Nat)} (h : ∀ t ∈ ts, TOk t) (h2 : ∀ t ∈ ts, Cp t) : Good (walk ts) := ⟨walk_GL h, walk_cp h2⟩
theorem pth_mem {ps : List (List (List Nat))} {ns : List (List Nat)} (hps : ∀ p ∈ ps, Good p) (hn : Good ns) : (pth ns ∈ ps.map pth) ↔ ns ∈ ps := by
  constructor
  · intro h
    obtain ⟨p, hp, e⟩ := List.mem_map.mp h
    exact pth_inj (hps p hp).gl hn.gl e ▸ hp
  · exact fun h => List.mem_map_of_mem h
end PartPx2

section PartB4
theorem Cx.ext {w : World} {s₀ s : Shared} {L : Addr} {l : List (Str × Value)} {g : Vis} {pr : List (Addr × Obj)} (C : Cx w s₀ L l g pr s) : Ext (Mine.vis s₀.heap) g := fun a o e => by
  have ⟨h1, h2⟩ := vis_get e
  rw [← C.vis]
  exact vis_some (C.keep _ _ h1) h2
/-- drawn: at most four ways of three names -/
structure Drawn4 (ds : List (List (List Nat))) : Prop where
  few : ds.length ≤ 4
  three : ∀ ts ∈ ds, ts.length = 3
  ok : ∀ ts ∈ ds, ∀ t ∈ ts, TOk t
  cp : ∀ ts ∈ ds, ∀ t ∈ ts, Cp t
theorem places_c {w A s k} {d : Addr} {dv : List Value} {dm : Nat} {ds : List (List (List Nat))} (kin : (K2 w.params).In s.heap) (hA : Ok (k+6) A) (hd0 : vis s.heap d = some (lstO dv dm)) (hdv : IsLists (vis s.heap) dv ds) (D4 : Drawn4 ds) :
    Spec w A 207 [.ref d] (fun v _ g' => ∃ a vs m, v = .ref a ∧ g' a = some (lstO vs m) ∧ IsStrs vs ((placesOf ds).map pth)) s := by
  refine enter (binds := [("drawn", .ref d)]) kin hA rfl rfl rfl rfl rfl rfl rfl rfl rfl fun L s' C => ?_
  ((with_reducible refine ex_gen ?_); intro Qn hN hO)
  ((with_reducible refine wpAny_Assign_Name ?_ ?e1); (case e1 => exact rfl))
  with_reducible refine lst_ ?_
  ((with_reducible refine wpAny_items_cons ?_ ?e1); (case e1 => exact rfl))
  ((with_reducible refine' const_T ?e1 ?_); (case e1 => first | exact slash_T | exact dot_T | exact dots_T | exact empty_T | exact nl_T | exact crlf_T | exact dcrlf_T | exact a_T | exact da_T | exact ddd_T | exact ah_T | exact sdots_T))
  with_reducible refine wpAny_items_nil ?_
  refine ⟨by ((show _ ≤ 16777216; simp; done)), by walk_at "cx", fun pa s1 hpa hpa0 C1 => ?_⟩
  (((with_reducible refine st_l (by walk_at "cx") ?e1 ?e2 ?e3 ?_); (case e1 => exact rfl); (case e2 => exact rfl); (case e3 => exact rfl); intro _ _))
  ((with_reducible refine qnx (by assumption) ?_); (try clear hN hO))
  ((with_reducible refine ex_gen ?_); intro Qn hN hO)
  ((with_reducible refine wpAny_For ?_ ?e1); (case e1 => (intro _; rfl)))
  (refine nm_l (by walk_at "cx") rfl rfl rfl rfl rfl ?_)
  rename_i C2
  have Cn := C2.nrm [("places", .ref pa)] ⟨rfl, trivial⟩
  refine piter_list Cn (Cn.ext _ _ hd0) fun it o s3 hpos C3 => ?_
  refine for_core (iters_list (n := dm) (hA.deeper _).hd) (fun i l g => l = ([("places", .ref pa)] : List (Str × Value)) ∧ Ext (vis s.heap) g ∧ ∃ ws m ps, g pa = some (lstO ws m) ∧ IsStrs ws (ps.map pth) ∧ (∀ p ∈ ps, Good p) ∧ ps.length ≤ 1 + 3 * i ∧ [] ∈ ps ∧
      (ds.drop i).foldl (fun ps ts => climbR ps (walk ts).reverse) ps = placesOf ds)
    (fun i l g h => h.2.1 _ _ hd0) (fun i l g g' e h => by obtain ⟨h1, h2, ws, m, ps, h3, h4⟩ := h; exact ⟨h1, h2.trans e, ws, m, ps, e _ _ h3, h4⟩) ?_ ?_
    ⟨rfl, Cn.ext, _, 0, [[]], put_self _ _ _, IsStrs.cons .nil, (fun p hp => by rw [List.mem_singleton.mp hp]; exact Good.nil), by simp, by simp, rfl⟩ hpos C3 (fun _ => rfl)
  · rintro i v l g o' s4 hi ⟨rfl, hext, ws, m, ps, hg, hws, hgood, hlen, h0, hall⟩ hv C4
    have hi' : i < ds.length := by rw [← hdv.length]; exact hi
    obtain ⟨ta, tv, tm, e1, hta, htv⟩ := hdv.get (i := i) (xs := ds[i]) (by simp [hi'])
    rw [e1] at hv
    obtain rfl := Option.some.inj hv
    have hmem : ds[i] ∈ ds := List.getElem_mem hi'
    have h3 := D4.three _ hmem
    have hok := D4.ok _ hmem
    have hcp := D4.cp _ hmem
    rw [List.drop_eq_getElem_cons hi'] at hall
    generalize ds[i] = ts at *
    have hne : ts ≠ [] := fun e => by rw [e] at h3; cases h3
    with_reducible refine wpAny_assign_Name ?_
    (((with_reducible refine st_l (by walk_at "cx") ?e1 ?e2 ?e3 ?_); (case e1 => exact rfl); (case e2 => exact rfl); (case e3 => exact rfl); intro _ _))
    ((with_reducible refine ex_gen ?_); intro Qn hN hO)
    ((with_reducible refine wpAny_Assign_Name ?_ ?e1); (case e1 => exact rfl))
    (with_reducible refine nm_call ?_)
    (refine nm_g (by walk_at "cx") rfl rfl rfl rfl rfl ?_)
    (refine' cu1 ?e1 ?e2 ?_); (case e1 => exact rfl); (case e2 => exact rfl)
    with_reducible refine wpAny_BinOp ?_
    ((with_reducible refine' const_T ?e1 ?_); (case e1 => first | exact slash_T | exact dot_T | exact dots_T | exact empty_T | exact nl_T | exact crlf_T | exact dcrlf_T | exact a_T | exact da_T | exact ddd_T | exact ah_T | exact sdots_T))
    (refine' Call_method1 ?e1 ?e2 ?e3 ?_); (case e1 => exact rfl); (case e2 => exact rfl); (case e3 => exact rfl)
    ((with_reducible refine' const_T ?e1 ?_); (case e1 => first | exact slash_T | exact dot_T | exact dots_T | exact empty_T | exact nl_T | exact crlf_T | exact dcrlf_T | exact a_T | exact da_T | exact ddd_T | exact ah_T | exact sdots_T))
    dsimp only
    with_reducible refine m_join ?_
    (refine nm_l (by walk_at "cx") rfl rfl rfl rfl rfl ?_)
    refine ⟨ta, tv, tm, ts, rfl, htv, (fun x hx => by have := (hok x hx).len; lia), by lia, by walk_at "cx", hext _ _ hta, fun t' s5 C5 => ?_⟩
    have hil : (inter 47 ts).length ≤ 12 := by
      have := inter_le 47 3 fun x hx => (hok x hx).len
      rw [h3] at this; exact this
    with_reducible refine SB.add ?_ ?_
    rotate_left
    · rw [T_len, T_len]; rw [sizeLine_eq]; simp; lia
    intro t6 k6
    rw [T_app]
    ((with_reducible refine And.intro ?k1 ?_); (case k1 => exact Cx.k (by walk_at "cx")))
    refine use (by walk_at "cx") (normpath_c (q := 47 :: inter 47 ts) (k := k + 1) (Cx.k (by walk_at "cx")) (hA.deeper _) (by simp; lia)) fun v7 g7 s7 e7 p7 C7 => ?_
    obtain ⟨t7, rfl⟩ := p7
    rw [norm_eq hne hok]
    (((with_reducible refine st_l (by walk_at "cx") ?e1 ?e2 ?e3 ?_); (case e1 => exact rfl); (case e2 => exact rfl); (case e3 => exact rfl); intro _ _))
    ((with_reducible refine qnx (by assumption) ?_); (try clear hN hO))
    ((with_reducible refine ex_gen ?_); intro Qn hN hO)
    refine wpAny_While ?_
    rename_i C8
    have Cw := C8.nrm [("here", .str (T (pth (walk ts))) t7), ("places", .ref pa)] ⟨rfl, rfl, trivial⟩
    have hwl := walk_len ts
    refine while_core (fun j l g => ∃ rs t ws m ps, rs.length = j ∧ l = ([("here", .str (T (pth rs.reverse)) t), ("places", .ref pa)] : List (Str × Value)) ∧ Ext (vis s.heap) g ∧ g pa = some (lstO ws m) ∧ IsStrs ws (ps.map pth) ∧
        (∀ p ∈ ps, Good p) ∧ Good rs.reverse ∧ ps.length + j ≤ 1 + 3 * (i + 1) ∧ [] ∈ ps ∧ (ds.drop (i + 1)).foldl (fun ps ts => climbR ps (walk ts).reverse) (climbR ps rs) = placesOf ds)
      (walk ts).length ?_ ⟨(walk ts).reverse, t7, ws, m, ps, by simp, by rw [List.reverse_reverse], hext.trans e7, e7 _ _ hg, hws, hgood, by rw [List.reverse_reverse]; exact walk_good hok hcp, by lia, h0, hall⟩ Cw
    clear hall
    rintro j l g s9 ⟨rs, t, ws, m, ps, hrl, rfl, hext, hg, hws, hgood, hgr, hlen, h0, hall⟩ C9
    ((with_reducible refine wpAny_isTrue_Compare1 ?_ ?e1); (case e1 => with_unfolding_all rfl))
    (refine nm_l (by walk_at "cx") rfl rfl rfl rfl rfl ?_)
    (refine nm_l (by walk_at "cx") rfl rfl rfl rfl rfl ?_)
    dsimp only
    refine notin_strs (by walk_at "cx") hg hws (hA.deeper _) (fun x hx => ?_) (pth_cp hgr.cp) ?_
    · obtain ⟨p, hp, rfl⟩ := List.mem_map.mp hx
      exact pth_cp (hgood p hp).cp
    with_reducible refine wpAny_truthy_bool ?_
    have epm : decide (pth rs.reverse ∈ ps.map pth) = decide (rs.reverse ∈ ps) := by rw [decide_eq_decide]; exact pth_mem hgood hgr
    rw [epm]
    by_cases hin : rs.reverse ∈ ps
    · refine it_no (by simp [hin]) ?_
      have hcl : climbR ps rs = ps := by
        cases rs with
        | nil => rfl
        | cons a r => rw [climbR, if_pos hin]
      rw [hcl] at hall
      ((with_reducible refine qnx (by assumption) ?_); (try clear hN hO))
      with_reducible refine wpAny_execs_nil ?_
      dsimp only
      rename_i C10
      exact ⟨_, _, ⟨rfl, hext, ws, m, ps, hg, hws, hgood, by lia, h0, hall⟩, C9.nrm [("places", .ref pa)] ⟨rfl, trivial⟩⟩
    · refine it_of (by simp [hin]) ?_
      cases rs with
      | nil => exact absurd h0 hin
      | cons a r =>
        rw [climbR, if_neg hin] at hall
        have hgr' : GL (r.reverse ++ [a]) := by rw [← List.reverse_cons]; exact hgr.gl
        simp only [List.length_cons] at hrl
        ((with_reducible refine ex_gen ?_); intro Qn hN hO)
        ((with_reducible refine wpAny_Expr ?_ ?e1 ?e2); (case e1 => exact rfl); (case e2 => exact rfl))
        (refine' Call_method1 ?e1 ?e2 ?e3 ?_); (case e1 => exact rfl); (case e2 => exact rfl); (case e3 => exact rfl)
        (refine nm_l (by walk_at "cx") rfl rfl rfl rfl rfl ?_)
        with_reducible refine m_append (by walk_at "cx") hg ?_
        (refine nm_l (by walk_at "cx") rfl rfl rfl rfl rfl ?_)
        refine ⟨by walk_at "cx", hg, by have := hws.length; have := D4.few; simp at *; lia, hpa0, fun s11 C11 => ?_⟩
        ((with_reducible refine qnx (by assumption) ?_); (try clear hN hO))
        ((with_reducible refine ex_gen ?_); intro Qn hN hO)
        ((with_reducible refine wpAny_Assign_Name ?_ ?e1); (case e1 => exact rfl))
        (with_reducible refine nm_call ?_)
        (refine nm_g (by walk_at "cx") rfl rfl rfl rfl rfl ?_)
        (refine' cu1 ?e1 ?e2 ?_); (case e1 => exact rfl); (case e2 => exact rfl)
        (refine nm_l (by walk_at "cx") rfl rfl rfl rfl rfl ?_)
        ((with_reducible refine And.intro ?k1 ?_); (case k1 => exact Cx.k (by walk_at "cx")))
        rw [List.reverse_cons]
        refine use (by walk_at "cx") (dir_p (k := k + 3) (Cx.k (by walk_at "cx")) (hA.deeper _) hgr' (by have := D4.few; simp; lia)) fun v12 g12 s12 e12 p12 C12 => ?_
        obtain ⟨t12, rfl⟩ := p12
        (((with_reducible refine st_l (by walk_at "cx") ?e1 ?e2 ?e3 ?_); (case e1 => exact rfl); (case e2 => exact rfl); (case e3 => exact rfl); intro _ _))
        ((with_reducible refine qnx (by assumption) ?_); (try clear hN hO))
        with_reducible refine wpAny_execs_nil ?_
        dsimp only
        rename_i C13
        refine ⟨r.length, _, _, by lia, ⟨r, t12, _, _, ps ++ [(a :: r).reverse], rfl, rfl, (hext.put hpa).trans e12, e12 _ _ (put_self _ _ _), by rw [List.map_append]; exact hws.snoc, ?_, hgr.rtl, by simp; lia, by simp [h0], hall⟩, C13.nrm _ ⟨rfl, rfl, trivial⟩⟩
        intro p hp
        rcases List.mem_append.mp hp with hp | hp
        · exact hgood p hp
        · rw [List.mem_singleton.mp hp]; exact hgr
  · rintro l g s4 ⟨rfl, hext, ws, m, ps, hg, hws, hgood, hlen, h0, hall⟩ C4
    ((with_reducible refine qnx (by assumption) ?_); (try clear hN hO))
    ((with_reducible refine ex_gen ?_); intro Qn hN hO)
    with_reducible refine wpAny_Return_some ?_
    (refine nm_l (by walk_at "cx") rfl rfl rfl rfl rfl ?_)
    ((with_reducible refine qot (by assumption) ?e1 ?_); (case e1 => exact fun h => nomatch h); (try clear hN hO))
    dsimp only
    refine And.intro (Cx.to (by walk_at "cx")) ?_
    rw [List.drop_eq_nil_of_le (by rw [hdv.length]; exact Nat.le_refl _)] at hall
    exact ⟨pa, ws, m, rfl, by rw [C4.vis]; exact hg, by rw [← hall]; exact hws⟩
end PartB4

section PartSo2
inductive All2 (R : Value → Value → Prop) : List Value → List Value → Prop
  | nil : All2 R [] []
  | cons {a b as bs} : R a b → All2 R as bs → All2 R (a :: as) (b :: bs)
theorem All2.snoc {R : Value → Value → Prop} {as bs : List Value} {a b : Value} (h : All2 R as bs) (q : R a b) : All2 R (as ++ [a]) (bs ++ [b]) := by
  induction h with
  | nil => exact .cons q .nil
  | cons h _ ih => exact .cons h ih
theorem All2.length {R : Value → Value → Prop} {as bs : List Value} (h : All2 R as bs) : as.length = bs.length := by
  induction h with
  | nil => rfl
  | cons _ _ ih => simp [ih]
theorem All2.mono {R R' : Value → Value → Prop} {as bs : List Value} (m : ∀ a b, R a b → R' a b) (h : All2 R as bs) : All2 R' as bs := by
  induction h with
  | nil => exact .nil
  | cons h _ ih => exact .cons (m _ _ h) ih
theorem All2.get {R : Value → Value → Prop} {as bs : List Value} (h : All2 R as bs) : ∀ i, i < as.length → R (as.getD i .none) (bs.getD i .none) := by
  induction h with
  | nil => intro i hi; cases hi
  | cons h _ ih =>
    intro i hi
    cases i with
    | zero => exact h
    | succ i => exact ih i (by simpa using hi)
noncomputable def Off (x y : Addr) (g : Vis) : Vis := fun b => if b = x ∨ b = y then none else g b
theorem Off.ext (x y : Addr) (g : Vis) : Ext (Off x y g) g := fun a o e => by
  unfold Off at e
  split at e
  · cases e
  · exact e
theorem Off.of {x y : Addr} {g g' : Vis} (e : Ext g g') (hx : g x = none) (hy : g y = none) : Ext g (Off x y g') := fun a o h => by
  unfold Off
  rw [if_neg]
  · exact e a o h
  · rintro (q | q)
    · rw [q, hx] at h; cases h
    · rw [q, hy] at h; cases h
theorem Off.mono {x y : Addr} {g g' : Vis} (e : Ext g g') : Ext (Off x y g) (Off x y g') := fun a o h => by
  unfold Off at h ⊢
  split at h
  · cases h
  · rename_i n; rw [if_neg n]; exact e a o h
theorem Off.put1 (x y : Addr) (g : Vis) (o : Obj) : Off x y (put g x o) = Off x y g := by
  funext b; unfold Off put; split
  · rfl
  · rename_i h; rw [if_neg fun q => h (.inl q)]
theorem Off.put2 (x y : Addr) (g : Vis) (o : Obj) : Off x y (put g y o) = Off x y g := by
  funext b; unfold Off put; split
  · rfl
  · rename_i h; rw [if_neg fun q => h (.inr q)]
theorem put_none {g : Vis} {a b : Addr} {o : Obj} (h : put g a o b = none) : b ≠ a ∧ g b = none := by
  unfold put at h
  split at h
  · cases h
  · rename_i n; exact ⟨n, h⟩
theorem keys_fold {M : Model} {A : Around} {E : Value → Shared → Prop} {body : Value → PUnit → Sem (ForInStep PUnit)} {vs : List Value} (I : List Value → List Value → Shared → Prop)
    (hb : ∀ dn x r ks s, vs = dn ++ x :: r → I dn ks s → wpAny M A (body x ⟨⟩) (fun q s' => q = .yield ⟨⟩ ∧ ∃ k, I (dn ++ [x]) (ks ++ [k]) s') E s) : ∀ (r dn ks : List Value) (s : Shared), vs = dn ++ r → I dn ks s →
    wpAny M A (forIn r PUnit.unit body) (fun _ s' => ∃ ks', I vs ks' s') E s
  | [], dn, ks, s, e, h => by
    rw [List.forIn_nil]
    rw [List.append_nil] at e
    subst e
    exact wpAny_pure ⟨ks, h⟩
  | x :: r, dn, ks, s, e, h => by
    rw [List.forIn_cons]
    refine wpAny_bind (wpAny_mono (hb dn x r ks s e h) (fun q s' hq => ?_) fun _ _ x => x)
    obtain ⟨rfl, k, hk⟩ := hq
    exact keys_fold I hb r (dn ++ [x]) (ks ++ [k]) s' (by rw [e, List.append_assoc]; rfl) hk

section
variable {w : World} {A : Around} {E : Value → Shared → Prop} {s s₀ : Shared} {L : Addr} {l : List (Str × Value)} {g : Vis} {pr : List (Addr × Obj)}
/-- what is known while the keys are made and compared -/
structure Sx (w : World) (s₀ : Shared) (L : Addr) (l : List (Str × Value)) (pr : List (Addr × Obj)) (g : Vis) (KO : Value → Value → Vis → Prop) (kS D : Addr) (e1 : Nat) (dn ks : List Value) (s : Shared) : Prop where
  ex : ∃ g' e, Cx w s₀ L l g' pr s ∧ Ext g g' ∧ g' kS = some (lstO ks e) ∧ g' D = some (lstO [] e1) ∧ All2 (fun v k => KO v k (Off kS D g')) dn ks
theorem sorted_key {a : Addr} {vs : List Value} {n : Nat} {f : Value} {kw : List (Str × Value)} {κ : SortKind} {lt : Nat → Nat → Bool} {KO : Value → Value → Vis → Prop} {Q : Value → Shared → Prop} (C : Cx w s₀ L l g pr s) (hg : g a = some (lstO vs n)) (h1 : 1 ≤ vs.length) (h64 : vs.length < 64)
    (ha1 : argsOk "sorted" ⟨[.ref a], kw⟩) (ha2 : ∀ x, argsOk "list.sort" ⟨[.ref x], kw⟩) (ht : ∀ x, Builtin.«list.sort» ⟨[.ref x], kw⟩ = ksk_tree x f false)
    (hKm : ∀ v k g g', Ext g g' → KO v k g → KO v k g')
    (hkey : ∀ v ∈ vs, ∀ x y g' s' (Q' : Value → Shared → Prop), Ext g g' → g x = none → g y = none → g' x ≠ none → g' y ≠ none → Cx w s₀ L l g' pr s' →
      (∀ k g'' s'', Ext g' g'' → KO v k (Off x y g'') → Cx w s₀ L l g'' pr s'' → Q' k s'') → wpAny (model P w) A.in1.in1 (call f [v] []) Q' (fun _ _ => False) s')
    (hkind : 2 ≤ vs.length → ∀ ks g' s' (Q' : SortKind → Shared → Prop), Ext g g' → Cx w s₀ L l g' pr s' → All2 (fun v k => KO v k g') vs ks → Q' κ s' → wpAny (model P w) A.in1.in1 (keyKind' (List.toArray ks)) Q' (fun _ _ => False) s')
    (hcmp : ∀ i j ki kj, i < vs.length → j < vs.length → ∀ g' s' (Q' : Bool → Shared → Prop), Ext g g' → Cx w s₀ L l g' pr s' → KO (vs.getD i .none) ki g' → KO (vs.getD j .none) kj g' →
      (∀ g'' s'', Ext g' g'' → Cx w s₀ L l g'' pr s'' → Q' (lt i j) s'') → wpAny (model P w) A.in1.in1 (keyLt' κ ki kj) Q' (fun _ _ => False) s')
    (hO : SOrd vs.length lt)
    (hQ : ∀ D p m g' s', Shuf vs.length p → Asc lt p vs.length → Ext g g' → g D = none → s₀.heap.get? D = none → g' D = some (lstO (p.toList.map fun i => vs.getD i .none) m) → Cx w s₀ L l g' pr s' → Q (.ref D) s') :
    wpAny (model P w) A (call (.builtin "sorted") [.ref a] kw) Q E s := by
  have hsl : sizeLine = 16777216 := sizeLine_eq
  refine call_function_entry_kw kind_sorted plain_sorted entry_sorted ha1 ?_
  unfold Builtin.«sorted»
  refine wpAny_bind (m := checkCount "sorted" 1 1 _) (wpAny_pure ?_)
  refine wpAny_bind (collect_list (C.isList hg) ?_ (by lia))
  have z := C.push (o := lstO [] 0) rfl rfl s.toks
  have C1 := lst_upd (vs' := vs) (f := (· ++ vs.toArray)) z.2 (put_self _ _ _) (size_none₀ C) (by simp) (fun e => by rw [e] at h1; simp at h1)
  rw [put_put] at C1
  obtain ⟨s1, hs1⟩ : ∃ s1 : Shared, { s with heap := (s.heap.push (lstO [] 0)).update s.heap.objs.size (Obj.mapSeq (· ++ vs.toArray)) } = s1 := ⟨_, rfl⟩
  change Cx w s₀ L l _ pr { s with heap := (s.heap.push (lstO [] 0)).update s.heap.objs.size (Obj.mapSeq (· ++ vs.toArray)) } at C1
  show wpAny _ _ _ _ _ { s with heap := (s.heap.push (lstO [] 0)).update s.heap.objs.size (Obj.mapSeq (· ++ vs.toArray)) }
  rw [hs1] at C1 ⊢
  have gx1 : Ext g (put g s.heap.objs.size (lstO vs (0 + 1))) := (Ext.refl g).put z.1
  clear hs1 z
  generalize put g s.heap.objs.size (lstO vs (0 + 1)) = g1 at *
  refine wpAny_bind (wpAny_newList ?_ (by lia))
  refine mk_obj (o := lstO vs 0) (Q := fun v s' => wpAny (model P w) A.in1 (do let _ ← holding [v] (call (.builtin "list.sort") [v] kw); ret v) _ E s') C1 rfl rfl fun D s2 hD1 hD0 C2 => ?_
  have hgD : g D = none := by
    cases q : g D with
    | none => rfl
    | some o => rw [gx1 _ _ q] at hD1; cases hD1
  refine wpAny_bind (wpAny_holding (wpAny_call_entry_kw slot_list_sort ⟨_, C2.at (put_self _ _ _), rfl⟩ entry_list_sort ?body (ha2 _)))
  have ht' := ht D
  show wpAny (model P w) A.in1.in1 (Builtin.«list.sort» ⟨[.ref D], kw⟩) _ _ _
  rw [ht']
  unfold ksk_tree
  refine wpAny_bind (listItems_at (C2.at (put_self _ _ _)) rfl ?_)
  refine wpAny_bind (listUpdate_at (C2.at (put_self _ _ _)) rfl ?_ (by rw [List.size_toArray, hsl]; lia) (Nat.zero_le _))
  have C3 := lst_upd (vs' := []) (f := fun _ => #[]) C2 (put_self _ _ _) hD0 rfl (fun e => by rw [← e] at h1; simp at h1)
  rw [put_put] at C3
  have gx3 : Ext g (put g1 D (lstO [] (0 + 1))) := gx1.put hgD
  have gD3 : put g1 D (lstO [] (0 + 1)) D = some (lstO [] 1) := put_self _ _ _
  generalize put g1 D (lstO [] (0 + 1)) = g3 at *
  generalize { s2 with heap := s2.heap.update D (Obj.mapSeq fun _ => #[]) } = s3 at *
  refine wpAny_bind (seqEpoch_at (C3.at gD3) rfl ?_)
  refine wpAny_bind (wpAny_newTuple ?_ (by show vs.length ≤ _; rw [hsl]; lia))
  refine mk_obj (o := tupO vs) (Q := fun held s' => wpAny (model P w) A.in1.in1 (do let keyStore ← newList []; holding [held, keyStore] (ksk_rest D f false vs.toArray 1 keyStore)) _ E s') C3 rfl rfl fun T1 s4 hT1 _ C4 => ?_
  have gx4 : Ext g (put g3 T1 (tupO vs)) := fun a o e => by
    have e3 := gx3 a o e
    rw [put_ne _ _ (Ext.ne e3 hT1)]; exact e3
  have gD4 : put g3 T1 (tupO vs) D = some (lstO [] 1) := by rw [put_ne _ _ (Ext.ne gD3 hT1)]; exact gD3
  generalize put g3 T1 (tupO vs) = g4 at *
  refine wpAny_bind (wpAny_newList ?_ (Nat.zero_le _))
  refine mk_obj (o := lstO [] 0) (Q := fun keyStore s' => wpAny (model P w) A.in1.in1 (holding [.ref T1, keyStore] (ksk_rest D f false vs.toArray 1 keyStore)) _ E s') C4 rfl rfl fun kS s5 hkS hkS0 C5 => ?_
  have hgkS : g kS = none := by
    cases q : g kS with
    | none => rfl
    | some o => rw [gx4 _ _ q] at hkS; cases hkS
  have hDk : D ≠ kS := Ext.ne gD4 hkS
  have gx5 : Ext g (put g4 kS (lstO [] 0)) := gx4.put hgkS
  have gD5 : put g4 kS (lstO [] 0) D = some (lstO [] 1) := by rw [put_ne _ _ hDk]; exact gD4
  have gk5 : put g4 kS (lstO [] 0) kS = some (lstO [] 0) := put_self _ _ _
  generalize put g4 kS (lstO [] 0) = g5 at *
  refine wpAny_holding ?_
  unfold ksk_rest
  refine wpAny_bind (wpAny_rule ?_)
  first
    | rw [List.forIn_toArray]
    | (rw [← Array.forIn_toList]; simp only [List.toList_toArray])
    | rw [← Array.forIn_toList]
  refine wpAny_bind (wpAny_mono (keys_fold (vs := vs) (Sx w s₀ L l pr g KO kS D 1) (fun dn x r ks s6 e6 h6 => ?_) vs [] [] s5 rfl ⟨g5, 0, C5, gx5, gk5, gD5, .nil⟩) (fun _ s6 h6 => ?_) fun _ _ x => x)
  · obtain ⟨g6, e, C6, x6, k6, d6, a6⟩ := h6
    have hx : x ∈ vs := by rw [e6]; simp
    have hkl : ks.length < 64 := by
      have h := a6.length
      have h' := congrArg List.length e6
      simp at h'; lia
    refine wpAny_bind (wpAny_attempt (wpAny_mono (hkey x hx kS D g6 s6 _ x6 hgkS hgD (by rw [k6]; simp) (by rw [d6]; simp) C6 fun k g7 s7 x7 o7 C7 => ?_) (fun _ _ q => q) fun _ _ q => q.elim))
    have k7 := x7 _ _ k6
    have d7 := x7 _ _ d6
    dsimp only
    refine wpAny_bind (listUpdate_at (C7.at k7) rfl ?_ (by rw [List.size_toArray, hsl]; lia) (by rw [Array.size_push, List.size_toArray, hsl]; lia))
    have C8 := lst_upd (vs' := ks ++ [k]) (f := (·.push k)) C7 k7 hkS0 (by simp) (by simp)
    refine wpAny_pure ⟨rfl, k, put g7 kS (lstO (ks ++ [k]) (e + 1)), e + 1, C8, (x6.trans x7).put hgkS, put_self _ _ _, by rw [put_ne _ _ hDk]; exact d7, ?_⟩
    rw [Off.put1]
    exact (a6.mono fun v q h => hKm _ _ _ _ (Off.mono x7) h).snoc o7
  · obtain ⟨ks, g6, e, C6, x6, k6, d6, a6⟩ := h6
    have hkl := a6.length
    refine wpAny_bind (listItems_at (C6.at k6) rfl ?_)
    unfold ksk_end
    dsimp only
    rw [if_neg (by simp)]
    have fin : ∀ (p : Array Nat) (st : SortSt) (s7 : Shared), Shuf vs.length p → Asc lt p vs.length → (arrOf st).map (·.2) = List.toArray (p.toList.map fun i => vs.getD i .none) → failedOf st = none → Sx w s₀ L l pr g KO kS D 1 vs ks s7 →
        wpAny (model P w) A.in1.in1 (ksk_tail D false 1 (.ref kS) st) (fun fin s' => ∃ v, fin = Fin.done (Flow.ret v) ∧ wpAny (model P w) A.in1 (ret (Value.ref D)) (fun fin s' => ∃ v, fin = Fin.done (Flow.ret v) ∧ Q v s') E s') E s7 := by
      rintro p st s7 hsh has hmap hf ⟨g7, e7, C7, x7, k7, d7, a7⟩
      have hol : (p.toList.map fun i => vs.getD i .none).length = vs.length := by rw [List.length_map, Array.length_toList, hsh.size]
      unfold ksk_tail
      try dsimp only
      rw [hmap]
      refine wpAny_bind (listUpdate_at (C7.at k7) rfl ?_ (by rw [List.size_toArray, hsl]; lia) (Nat.zero_le _))
      have C8 := lst_upd (vs' := []) (f := fun _ => #[]) C7 k7 hkS0 rfl (fun e => by have e' : 0 = ks.length := e; lia)
      have d8 : put g7 kS (lstO [] (e7 + 1)) D = some (lstO [] 1) := by rw [put_ne _ _ hDk]; exact d7
      refine wpAny_bind (wpAny_letGo ?_)
      refine wpAny_bind (seqEpoch_at (C8.at d8) rfl ?_)
      refine wpAny_bind (listUpdate_at (C8.at d8) rfl ?_ (Nat.zero_le _) (by show (List.toArray _).size ≤ _; rw [List.size_toArray, hol, hsl]; lia))
      have C9 := lst_upd (vs' := p.toList.map fun i => vs.getD i .none) (f := fun _ => List.toArray (p.toList.map fun i => vs.getD i .none)) C8 d8 hD0 rfl (fun e => by rw [hol] at e; have e' : vs.length = 0 := e; lia)
      rw [hf]
      simp only [bne_self_eq_false, Bool.false_eq_true, if_false]
      refine wpAny_pure ⟨_, rfl, wpAny_pure ⟨_, rfl, ?_⟩⟩
      exact hQ D p _ _ _ hsh has ((x7.put hgkS).put hgD) hgD hD0 (put_self _ _ _) C9
    by_cases h2 : vs.length < 2
    · rw [if_pos (by simpa using h2), if_pos (by simpa using h2)]
      refine wpAny_bind (wpAny_pure ?_)
      rw [StateT.run_pure]
      refine wpAny_bind (wpAny_pure ?_)
      try dsimp only
      obtain ⟨v, rfl⟩ : ∃ v, vs = [v] := List.length_eq_one_iff.mp (by lia)
      obtain ⟨k, rfl⟩ : ∃ k, ks = [k] := List.length_eq_one_iff.mp (by rw [← hkl]; rfl)
      exact fin (List.toArray (List.range 1)) _ s6 ⟨List.Perm.refl _⟩ (fun i j a b => by simp at b; lia) (by show Array.map (·.2) ((List.toArray [k]).zip (List.toArray [v])) = _; simp) rfl ⟨g6, e, C6, x6, k6, d6, a6⟩
    · rw [if_neg (by simpa using h2), if_neg (by simpa using h2)]
      refine wpAny_bind (wpAny_mono (hkind (by lia) ks g6 s6 x6 C6 (a6.mono fun v k h => hKm _ _ _ _ (Off.ext _ _ _) h) (Q' := fun κ' s' => κ' = κ ∧ s' = s6) ⟨rfl, rfl⟩) (fun κ' s' hk => ?_) fun _ _ q => q.elim)
      obtain ⟨rfl, rfl⟩ := hk
      have run := Res.wp (I := Sx w s₀ L l pr g KO kS D 1 vs ks) (cmp := kas_ask P w A.in1.in1 κ' ks) (fun i j s7 C7 hi hj h7 hC => by
        obtain ⟨g7, e7, C7, x7, k7, d7, a7⟩ := h7
        refine hcmp i j _ _ hi hj g7 s7 _ x7 C7 (hKm _ _ _ _ (Off.ext _ _ _) (a7.get i hi)) (hKm _ _ _ _ (Off.ext _ _ _) (a7.get j hj)) fun g8 s8 x8 C8 => hC s8 ⟨g8, e7, C8, x7.trans x8, x8 _ _ k7, x8 _ _ d7, a7.mono fun v k h => hKm _ _ _ _ (Off.mono x8) h⟩)
        (res_sort hO (by lia)) (s := s') ⟨g6, e, C6, x6, k6, d6, a6⟩
      refine wpAny_bind (wpAny_mono (kat_run (E := E) (Q := fun st' s' => ∃ p : Array Nat, arrOf st' = p.map (kas_item ((List.toArray ks).zip (List.toArray vs))) ∧ failedOf st' = none ∧ (Shuf vs.length p ∧ Asc lt p vs.length) ∧ Sx w s₀ L l pr g KO kS D 1 vs ks s')
        hkl.symm (by lia) h64 (fun p' st' s' a1 a2 a3 a4 => ⟨p', a2, a3, a4.1, a4.2⟩) run) ?_ fun _ _ x => x)
      rintro ⟨⟨⟩, st'⟩ s7 ⟨p, har, hf, hpa, h7⟩
      try dsimp only
      exact fin p st' s7 hpa.1 hpa.2 (kat_snds hkl.symm har) hf h7
end
end PartSo2

section PartB5
section
variable {w : World} {A : Around} {E : Value → Shared → Prop} {s s₀ : Shared} {L : Addr} {l : List (Str × Value)} {g : Vis} {pr : List (Addr × Obj)} {env : Env}
noncomputable def rngO (n : Nat) (t u v : Tok) : Obj := { cls := .type "range", data := .fields #[.int 0 t, .int (n : Int) u, .int 1 v] }
noncomputable def rgPos (n i : Nat) (o : Obj) : Prop := o = { cls := .type "range_iterator", data := .fields #[rawInt (i : Int), rawInt ((n : Int) - (i : Int)), rawInt 1] }
theorem rsz (n : Nat) : Builtin.Range.rangeSize 0 (n : Int) 1 = n := by
  unfold Builtin.Range.rangeSize
  simp
  lia
theorem iters_range {it : Addr} {n : Nat} (hh : A.handled = none) : Iters w A n (fun i v _ => ∃ t, v = .int (i : Int) t) it (rgPos n) (fun _ => True) := by
  refine ⟨?_, ?_⟩
  · intro i o s₀ L l g pr s Q E hi hp hg C h
    have e := (C.prot _ (.head _)).1
    rw [hp] at e
    refine wpAny_pyNext_range_item (x := (i : Int)) (left := (n : Int) - (i : Int)) (step := 1) e (by lia) fun h' hit' hs => ?_
    have z := C.turnP (fun b x hb e => (hs.2 b hb).trans e) hit' rfl (s.toks + 1)
    refine h _ _ _ _ z.1 ⟨_, rfl⟩ ?_ z.2
    unfold rgPos
    rw [show (n : Int) - (i : Int) - 1 = (n : Int) - ((i + 1 : Nat) : Int) by lia, show (i : Int) + 1 = ((i + 1 : Nat) : Int) by lia]
  · intro o s₀ L l g pr s Q E hp hg C h
    have e := (C.prot _ (.head _)).1
    rw [hp] at e
    refine wpAny_pyNext_range_end (x := (n : Int)) (left := (n : Int) - (n : Int)) (step := 1) hh e (by lia) fun h' he => ?_
    have z := C.dropP (fun b x hb e => he b x hb e) s.toks
    exact h _ _ z.1 z.2
theorem piter_range {r : Addr} {n : Nat} {t u v : Tok} {Q : Value → Shared → Prop} (C : Cx w s₀ L l g pr s) (hg : g r = some (rngO n t u v)) (hn : n ≤ 100000) (h : ∀ it o s', rgPos n 0 o → Cx w s₀ L l g ((it, o) :: pr) s' → Q (.ref it) s') : wpAny (model P w) A (pyIter (.ref r)) Q E s := by
  refine wpAny_pyIter_range (a := 0) (b := (n : Int)) (c := 1) (C.at hg) ?_ ?_
  · unfold Builtin.Range.small
    rw [rsz]
    simp [Builtin.Range.rangeFitsLong]
    lia
  · rw [rsz]
    refine h _ _ _ ?_ (C.pushP rfl rfl s.toks)
    unfold rgPos; simp
theorem range1 {n : Nat} {t : Tok} {Q : Value → Shared → Prop} (C : Cx w s₀ L l g pr s) (h : ∀ r t u v s', g r = none → s₀.heap.get? r = none → Cx w s₀ L l (put g r (rngO n t u v)) pr s' → Q (.ref r) s') : wpAny (model P w) A (call (.type "range") [.int (n : Int) t]) Q E s := by
  refine call_range_1 ?_
  have z := C.push (o := rngO n s.toks t (s.toks + 1)) rfl rfl (s.toks + 1 + 1)
  exact h _ _ _ _ _ z.1 (size_none₀ C) z.2
theorem ct1 {pos : Pos} {id : String} {e : Expr} {Q : Value → Shared → Prop} (hs : starEach [e] env = [(false, eval e env)])
    (h : wpAny (model P w) A (eval e env) (fun v s₁ => wpAny (model P w) A (call (.type id) [v] []) Q E s₁) E s) :
    wpAny (model P w) A (callWith pos (.type id) [] (backTo pos (starEach [e] env)) []) Q E s := by
  rw [hs]
  refine PySem.callWith_type rfl (Calls.evalArgs_plain ?_)
  exact Calls.spliced_cons (wpAny_mono h (fun v s₁ q => Calls.spliced_nil q) fun _ _ q => q)
theorem cbk1 {pos : Pos} {id : String} {e value : Expr} {name : Str} {kp : Pos} {Q : Value → Shared → Prop} (hs : starEach [e] env = [(false, eval e env)])
    (hall : (backToKw pos (keywordEach [⟨some name, value, kp⟩] env)).all (·.1.isSome) = true) (hkw : (backToKw pos (keywordEach [⟨some name, value, kp⟩] env)).any (·.1.isNone) = false)
    (hnm : (backToKw pos (keywordEach [⟨some name, value, kp⟩] env)).filterMap (·.1) = [name])
    (h : wpAny (model P w) A (eval e env) (fun v s₁ => wpAny (model P w) A (eval value env) (fun kv s₂ => wpAny (model P w) A (call (.builtin id) [v] [(name, kv)]) Q E s₂) E s₁) E s) :
    wpAny (model P w) A (callWith pos (.builtin id) [] (backTo pos (starEach [e] env)) (backToKw pos (keywordEach [⟨some name, value, kp⟩] env))) Q E s := by
  rw [hs]
  refine callWith_builtin_kwB rfl hkw ?_
  refine evalArgs_kwB hall ?_
  refine Calls.spliced_cons (wpAny_mono h (fun v s₁ q => Calls.spliced_nil ?_) fun _ _ q => q)
  refine kws_cons (wpAny_mono q (fun kv s₂ q2 => kws_nil ?_) fun _ _ q => q)
  rw [hnm]; exact q2
/-- what the rule of a list's slice is told -/
inductive SlL (w : World) (o vl vu : Value) (Q : Value → Shared → Prop) (s₃ : Shared) : Prop
  | intro {s₀ : Shared} {L : Addr} {l : List (Str × Value)} {g : Vis} {pr : List (Addr × Obj)} (a : Addr) (vs : List Value) (n : Nat) (lo hi : Option Int) (out : List Value) (h1 : o = .ref a) (h2 : IsPart vl lo) (h3 : IsPart vu hi) (h4 : slicePick vs.toArray lo hi none = List.toArray out) (h5 : vs.length ≤ 100000)
    (C : Cx w s₀ L l g pr s₃) (hg : g a = some (lstO vs n)) (h : ∀ D s', g D = none → s₀.heap.get? D = none → Cx w s₀ L l (put g D (lstO out 0)) pr s' → Q (.ref D) s') : SlL w o vl vu Q s₃
theorem slice_l {value : Expr} {lower upper : Option Expr} {p pos : Pos} {Q : Value → Shared → Prop} (ht : ∀ o r, letTemporaryGo value o r = pure ())
    (h : wpAny (model P w) A (eval value env) (fun o s₁ => wpAny (model P w) A (evalPart lower env) (fun vl s₂ => wpAny (model P w) A (evalPart upper env) (fun vu s₃ =>
      SlL w o vl vu Q s₃) E s₂) E s₁) E s) :
    wpAny (model P w) A (eval (.Subscript value (.Slice lower upper none p) pos) env) Q E s := by
  refine wpAny_Subscript_list_slice (wpAny_mono h (fun o s₁ h₁ => wpAny_mono h₁ (fun vl s₂ h₂ => wpAny_mono h₂ (fun vu s₃ h₃ => ?_) fun _ _ q => q) fun _ _ q => q) fun _ _ q => q) ht
  obtain @⟨s₀, L, l, g, pr, a, vs, n, lo, hi, out, rfl, p1, p2, ho, hl, C, hg, hQ⟩ := h₃
  refine ⟨a, vs.toArray, lo, hi, rfl, C.isList hg, by simp [sizeLine_eq]; lia, p1, p2, ?_⟩
  rw [ho]
  have C1 := C.pushH (o := { cls := .type "slice", data := .fields #[vl, vu, .none] }) rfl rfl s₃.toks
  have z := C1.push (o := lstO out 0) rfl rfl s₃.toks
  have hsz : (s₃.heap.push { cls := .type "slice", data := .fields #[vl, vu, .none] }).objs.size = s₃.heap.objs.size + 1 := Heap.size_push _ _
  have h0 := size_none₀ C1
  have z1 := z.1
  have z2 := z.2
  change s₀.heap.get? (s₃.heap.push { cls := .type "slice", data := .fields #[vl, vu, .none] }).objs.size = none at h0
  rw [hsz] at h0
  change g (s₃.heap.push { cls := .type "slice", data := .fields #[vl, vu, .none] }).objs.size = none at z1
  rw [hsz] at z1
  change Cx w s₀ L l (put g (s₃.heap.push { cls := .type "slice", data := .fields #[vl, vu, .none] }).objs.size (lstO out 0)) pr _ at z2
  rw [hsz] at z2
  exact hQ _ _ z1 h0 z2
theorem add_lst {a b : Addr} {vs ws : List Value} {n m : Nat} {Q : Value → Shared → Prop} (C : Cx w s₀ L l g pr s) (ha : g a = some (lstO vs n)) (hb : g b = some (lstO ws m)) (hl : vs.length + ws.length ≤ 100000)
    (h : ∀ D s', g D = none → s₀.heap.get? D = none → Cx w s₀ L l (put g D (lstO (vs ++ ws) 0)) pr s' → Q (.ref D) s') : wpAny (model P w) A (binaryOp .Add (.ref a) (.ref b)) Q E s := by
  refine PySem.P.add_list (C.isL ha) (C.isL hb) ?_ (by simp [sizeLine_eq]; lia)
  rw [show vs.toArray ++ ws.toArray = (vs ++ ws).toArray by simp]
  exact mk_obj (o := lstO (vs ++ ws) 0) C rfl rfl h
end
theorem rank_c {w A s k} {nl : Addr} {vs : List Value} {m : Nat} (kin : (K2 w.params).In s.heap) (hA : Ok (k+2) A) (hg : vis s.heap nl = some (lstO vs m)) (hl : vs.length ≤ 1000) :
    Spec w A 221 [.ref nl] (fun v g g' => ∃ a t, v = .ref a ∧ g a = none ∧ g' a = some (tupO [.int (vs.length : Int) t, .ref nl])) s := by
  refine enter (binds := [("names", .ref nl)]) kin hA rfl rfl rfl rfl rfl rfl rfl rfl rfl fun L s' C => ?_
  ((with_reducible refine ex_gen ?_); intro Qn hN hO)
  with_reducible refine wpAny_Return_some ?_
  with_reducible refine tup_ ?_
  ((with_reducible refine wpAny_items_cons ?_ ?e1); (case e1 => exact rfl))
  (with_reducible refine nm_call ?_)
  (refine nm_b (by walk_at "cx") rfl rfl rfl rfl rfl rfl rfl ?_)
  (refine' cb1 ?e2 ?_); (case e2 => exact rfl)
  (refine nm_l (by walk_at "cx") rfl rfl rfl rfl rfl ?_)
  refine Calls.call_len_list (C.isList hg) (by simp; lia) ?_
  ((with_reducible refine wpAny_items_cons ?_ ?e1); (case e1 => exact rfl))
  (refine nm_l (by walk_at "cx") rfl rfl rfl rfl rfl ?_)
  with_reducible refine wpAny_items_nil ?_
  refine ⟨by ((show _ ≤ 16777216; simp; done)), by walk_at "cx", fun a s1 ha ha0 C1 => ?_⟩
  ((with_reducible refine qot (by assumption) ?e1 ?_); (case e1 => exact fun h => nomatch h); (try clear hN hO))
  dsimp only
  refine And.intro (Cx.to (by walk_at "cx")) ?_
  exact ⟨a, _, rfl, ha, C1.got⟩
end PartB5

section PartB6
open PySem.Builtin in
noncomputable def llt : List (List Nat) → List (List Nat) → Bool
  | _, [] => false
  | [], _ :: _ => true
  | x :: r, y :: q => if x = y then llt r q else decide (x < y)
section
variable {w : World} {A : Around} {E : Value → Shared → Prop} {s : Shared}
theorem eqb_strs {x y : List Nat} {t u : Tok} {Q : Bool → Shared → Prop} (hA : A.units < cLine) (hx : Cp x) (hy : Cp y) (h : Q (decide (x = y)) s) : wpAny (model P w) A (eqBool (.str (T x) t) (.str (T y) u)) Q E s := by
  refine SeqAt.eqBoolOverData P w A E s _ _ (Sd x) (Sd y) [] [] Q (.str _ _) (.str _ _) (lay_Sd hx) (lay_Sd hy) ?_ ?_
  · have e1 : (Sd x).depth = 0 := by show PyData.depth (.str _) = 0; simp [PyData.depth]
    rw [e1]; simpa using hA
  · rw [eqv_Sd]; exact h
theorem drop_none {vs : List Value} {i : Nat} (h : vs.length - i = 0) : vs.toArray[((i : Nat) : Int).toNat]? = none := by simp; lia
theorem drop_some {vs : List Value} {i : Nat} {x : List Nat} {r : List (List Nat)} (h : IsStrs (vs.drop i) (x :: r)) : ∃ t, vs.toArray[((i : Nat) : Int).toNat]? = some (.str (T x) t) ∧ IsStrs (vs.drop (i + 1)) r := by
  obtain ⟨t, vs', e, h'⟩ := h.cons_inv
  refine ⟨t, ?_, ?_⟩
  · have := congrArg (fun l => l[0]?) e
    simp only [List.getElem?_drop, List.getElem?_cons_zero, Nat.add_zero] at this
    simpa using this
  · have : vs.drop (i + 1) = vs' := by rw [← List.drop_drop, e]; rfl
    rw [this]; exact h'
theorem lt_loop {l b : Addr} {vs ws : List Value} {n n2 : Nat} {R : Result → Shared → Prop} : ∀ (xs ys : List (List Nat)) (i : Nat), IsL s.heap l vs.toArray n → IsL s.heap b ws.toArray n2 → IsStrs (vs.drop i) xs → IsStrs (ws.drop i) ys → i ≤ vs.length → i ≤ ws.length → (∀ x ∈ xs, Cp x) → (∀ y ∈ ys, Cp y) →
    A.units + 1 < cLine → R (.ok (.ret (.bool (llt xs ys)))) s → codeAny (model P w) A (.builtin "list.__eq__.loop" ⟨[.ref l, .ref b, rawInt i, rawInt 0], []⟩) R s := by
  intro xs
  induction xs with
  | nil =>
    intro ys i hl hb hx hy hi1 hi2 cx cy hu h
    refine codeAny_builtin PySem.MeetsSeq3.entry_eq_loop ?_
    have lx := hx.length
    have ly := hy.length
    simp only [List.length_drop, List.length_nil] at lx ly
    have e1 : vs.toArray[((i : Nat) : Int).toNat]? = none := drop_none lx
    have e2 : llt [] ys = decide (vs.length < ws.length) := by
      cases ys with
      | nil => simp at ly; rw [decide_eq_false (by lia)]; rfl
      | cons y q => simp at ly; rw [decide_eq_true (by lia)]; rfl
    rw [e2] at h
    obtain ⟨hp, g, d, tk, os⟩ := s
    wp_walk using wpAny_loadPart' hl, wpAny_loadPart' hb
    rw [e1]
    dsimp only
    wp_walk using wpAny_loadPart' hl, wpAny_loadPart' hb
    show R (.ok (.ret (.bool (decide (vs.toArray.size < ws.toArray.size))))) _
    simpa using h
  | cons x r ih =>
    intro ys i hl hb hx hy hi1 hi2 cx cy hu h
    refine codeAny_builtin PySem.MeetsSeq3.entry_eq_loop ?_
    obtain ⟨t, e1, hx'⟩ := drop_some hx
    cases ys with
    | nil =>
      have lx := hx.length
      have ly := hy.length
      simp only [List.length_drop, List.length_nil, List.length_cons] at lx ly
      have e2 : ws.toArray[((i : Nat) : Int).toNat]? = none := drop_none ly
      have e3 : llt (x :: r) [] = decide (vs.length < ws.length) := by rw [decide_eq_false (by lia)]; rfl
      rw [e3] at h
      obtain ⟨hp, g, d, tk, os⟩ := s
      wp_walk using wpAny_loadPart' hl, wpAny_loadPart' hb
      rw [e1, e2]
      dsimp only
      wp_walk using wpAny_loadPart' hl, wpAny_loadPart' hb
      show R (.ok (.ret (.bool (decide (vs.toArray.size < ws.toArray.size))))) _
      simpa using h
    | cons y q =>
      obtain ⟨u, e2, hy'⟩ := drop_some hy
      have li : i < vs.length := by have := hx.length; simp at this; lia
      have li2 : i < ws.length := by have := hy.length; simp at this; lia
      obtain ⟨hp, g, d, tk, os⟩ := s
      wp_walk using wpAny_loadPart' hl, wpAny_loadPart' hb
      rw [e1, e2]
      dsimp only
      refine wpAny_bind (eqb_strs (by rw [Around.under_plainId PySem.MeetsSeq3.plain_eq_loop _]; exact hu) (cx x (.head _)) (cy y (.head _)) ?_)
      rw [llt] at h
      by_cases hxy : x = y
      · rw [if_pos hxy] at h
        rw [decide_eq_true hxy, if_pos rfl]
        refine wpAny_pure ⟨plainId_quiet PySem.MeetsSeq3.plain_eq_loop _, ?_⟩
        have hc : ((i : Int) + 1) = ((i + 1 : Nat) : Int) := by push_cast; rfl
        rw [hc]
        exact ih q (i + 1) hl hb hx' hy' li li2 (fun a m => cx a (.tail _ m)) (fun a m => cy a (.tail _ m)) hu h
      · rw [if_neg hxy] at h
        rw [decide_eq_false hxy, if_neg (by simp)]
        wp_walk using wpAny_loadPart' hl, wpAny_loadPart' hb
        rw [e1, e2]
        dsimp only
        refine wpAny_bind (PyProof.Rows.lt_str (E := fun e s' => R (.error e) s') ?_)
        rw [toList_T, toList_T]
        exact wpAny_pure h
theorem sub_list_list : isSubtype (.type "list") (.type "list") = pure true := by rw [isSubtype_type]; kernel_rfl
theorem lt_lists {l b : Addr} {vs ws : List Value} {n n2 : Nat} {xs ys : List (List Nat)} {E : Value → Shared → Prop} {Q : Value → Shared → Prop} (hl : IsL s.heap l vs.toArray n) (hb : IsL s.heap b ws.toArray n2) (hx : IsStrs vs xs) (hy : IsStrs ws ys) (cx : ∀ x ∈ xs, Cp x) (cy : ∀ y ∈ ys, Cp y)
    (hu : A.units + 2 < cLine) (h : Q (.bool (llt xs ys)) s) : wpAny (model P w) A (compareOp .Lt (.ref l) (.ref b)) Q E s := by
  have g : MeetsIn P w (Builtin.«list.__lt__» ⟨[.ref l, .ref b], []⟩) (fun A' R s' => s' = s ∧ A' = A ∧ R (.ok (.ret (.bool (llt xs ys)))) s) := by
    rintro A' R s' ⟨rfl, rfl, hR⟩
    obtain ⟨hp, g, d, tk, os⟩ := s'
    have f3 := sub_list_list
    wp_walk using wpAny_loadPart' hl, wpAny_loadPart' hb
    exact ⟨plainId_quiet PySem.MeetsSeq3.plain_eq_loop _, lt_loop xs ys 0 hl hb hx hy (Nat.zero_le _) (Nat.zero_le _) cx cy (by lia) hR⟩
  exact wpAny_richCompare_same_room (op := .Lt) ⟨_, hl, rfl⟩ ⟨_, hb, rfl⟩ F.slot_list_lt (call_meetsIn F.slot_list_lt ⟨_, hl, rfl⟩ F.entry_list_lt (F.args_list_lt_2 _ _) g ⟨rfl, rfl, (fun x => nomatch x), h⟩) (by lia)
end
end PartB6

section PartPx3
theorem nlt_tri {x y : List Nat} (hne : x ≠ y) (h : ¬ x < y) : y < x := by
  by_cases h2 : y < x
  · exact h2
  · exact absurd (List.le_antisymm (List.not_lt.mp h2) (List.not_lt.mp h)) hne
theorem llt_trans : ∀ {x y z : List (List Nat)}, llt x y = true → llt y z = true → llt x z = true
  | _, [], _, h, _ => by cases ‹List (List Nat)› <;> simp [llt] at h
  | _, _ :: _, [], _, h => by simp [llt] at h
  | [], _ :: _, _ :: _, _, _ => rfl
  | a :: r, b :: q, c :: t, h1, h2 => by
    simp only [llt] at h1 h2 ⊢
    by_cases e1 : a = b
    · rw [if_pos e1] at h1
      subst e1
      by_cases e2 : a = c
      · rw [if_pos e2] at h2; rw [if_pos e2]; exact llt_trans h1 h2
      · rw [if_neg e2] at h2; rw [if_neg e2]; exact h2
    · rw [if_neg e1] at h1
      have h1' := of_decide_eq_true h1
      by_cases e2 : b = c
      · subst e2; rw [if_neg e1]; exact h1
      · rw [if_neg e2] at h2
        have h3 := List.lt_trans h1' (of_decide_eq_true h2)
        rw [if_neg (fun e => by rw [e] at h3; exact List.lt_irrefl _ h3)]
        exact decide_eq_true h3
theorem llt_irrefl : ∀ x : List (List Nat), llt x x = false
  | [] => rfl
  | a :: r => by simp only [llt, if_true]; exact llt_irrefl r
theorem llt_asym {x y : List (List Nat)} (h : llt x y = true) : llt y x = false := by
  cases e : llt y x with
  | false => rfl
  | true => have := llt_trans h e; rw [llt_irrefl] at this; cases this
theorem llt_tri : ∀ {x y : List (List Nat)}, x ≠ y → llt x y = false → llt y x = true
  | [], [], h, _ => absurd rfl h
  | [], _ :: _, _, h => by simp [llt] at h
  | _ :: _, [], _, _ => rfl
  | a :: r, b :: q, hne, h => by
    simp only [llt] at h ⊢
    by_cases e : a = b
    · rw [if_pos e] at h; rw [if_pos e.symm]
      exact llt_tri (fun e2 => hne (by rw [e, e2])) h
    · rw [if_neg e] at h; rw [if_neg (fun q => e q.symm)]
      exact decide_eq_true (nlt_tri e (of_decide_eq_false h))
noncomputable def wlt (x y : List (List Nat)) : Bool := if x.length = y.length then llt x y else decide (x.length < y.length)
theorem wlt_trans {x y z : List (List Nat)} (h1 : wlt x y = true) (h2 : wlt y z = true) : wlt x z = true := by
  unfold wlt at *
  by_cases e1 : x.length = y.length
  · rw [if_pos e1] at h1
    by_cases e2 : y.length = z.length
    · rw [if_pos e2] at h2; rw [if_pos (e1.trans e2)]; exact llt_trans h1 h2
    · rw [if_neg e2] at h2; rw [if_neg (by lia)]; simp at h2 ⊢; lia
  · rw [if_neg e1] at h1
    by_cases e2 : y.length = z.length
    · rw [if_neg (by lia)]; simp at h1 ⊢; lia
    · rw [if_neg e2] at h2; simp at h1 h2; rw [if_neg (by lia)]; simp; lia
theorem wlt_irrefl (x : List (List Nat)) : wlt x x = false := by unfold wlt; rw [if_pos rfl]; exact llt_irrefl x
theorem wlt_asym {x y : List (List Nat)} (h : wlt x y = true) : wlt y x = false := by
  cases e : wlt y x with
  | false => rfl
  | true => have := wlt_trans h e; rw [wlt_irrefl] at this; cases this
theorem wlt_tri {x y : List (List Nat)} (hne : x ≠ y) (h : wlt x y = false) : wlt y x = true := by
  unfold wlt at *
  by_cases e : x.length = y.length
  · rw [if_pos e] at h; rw [if_pos e.symm]; exact llt_tri hne h
  · rw [if_neg e] at h; rw [if_neg (by lia)]; simp at h ⊢; lia
theorem sord_of {xs : List (List (List Nat))} {lt' : List (List Nat) → List (List Nat) → Bool} (ht : ∀ x y z, x ∈ xs → y ∈ xs → z ∈ xs → lt' x y = true → lt' y z = true → lt' x z = true) : True := trivial
theorem sord_wlt {xs : List (List (List Nat))} (nd : xs.Nodup) : SOrd xs.length (fun i j => wlt (xs.getD i []) (xs.getD j [])) := by
  refine ⟨fun i j k h1 h2 => wlt_trans h1 h2, fun i j hi hj hij h => wlt_tri (fun e => ?_) h, fun i j h => wlt_asym h⟩
  rw [List.getD_eq_getElem?_getD, List.getD_eq_getElem?_getD, List.getElem?_eq_getElem hi, List.getElem?_eq_getElem hj] at e
  rw [List.nodup_iff_pairwise_ne, List.pairwise_iff_getElem] at nd
  rcases Nat.lt_or_gt_of_ne hij with q | q
  · exact nd i j hi hj q (by simpa using e)
  · exact nd j i hj hi q (by simpa using e.symm)
theorem sort_out {α : Type} {xs : List α} {d : α} {lt' : α → α → Bool} {p : Array Nat} (S : Shuf xs.length p) (A : Asc (fun i j => lt' (xs.getD i d) (xs.getD j d)) p xs.length) :
    (p.toList.map fun i => xs.getD i d).Perm xs ∧ (p.toList.map fun i => xs.getD i d).Pairwise (fun x y => lt' x y = true) := by
  constructor
  · refine (S.perm.map _).trans (List.Perm.of_eq ?_)
    refine List.ext_getElem (by simp) fun i h1 h2 => ?_
    simp at h1
    simp [h1]
  · rw [List.pairwise_map, List.pairwise_iff_getElem]
    intro i j hi hj hij
    have hs := S.size
    have := A i j hij (by simpa [hs] using hj)
    rw [gp_eq (by simpa using hi), gp_eq (by simpa using hj)] at this
    simpa using this
theorem IsLists.pick {g : Vis} {vs : List Value} {xss : List (List (List Nat))} (h : IsLists g vs xss) : ∀ (l : List Nat), (∀ i ∈ l, i < xss.length) → IsLists g (l.map fun i => vs.getD i .none) (l.map fun i => xss.getD i [])
  | [], _ => trivial
  | i :: l, hl => by
    refine ⟨?_, IsLists.pick h l fun j hj => hl j (.tail _ hj)⟩
    have hi := hl i (.head _)
    obtain ⟨a, ws, m, e, h2, h3⟩ := h.get (i := i) (xs := xss.getD i []) (by rw [List.getD_eq_getElem?_getD, List.getElem?_eq_getElem hi]; rfl)
    exact ⟨a, ws, m, by show vs.getD i .none = _; rw [List.getD_eq_getElem?_getD, e]; rfl, h2, h3⟩
theorem IsStrs.pick {vs : List Value} {xs : List (List Nat)} (h : IsStrs vs xs) : ∀ (l : List Nat), (∀ i ∈ l, i < xs.length) → IsStrs (l.map fun i => vs.getD i .none) (l.map fun i => xs.getD i [])
  | [], _ => .nil
  | i :: l, hl => by
    have hi := hl i (.head _)
    obtain ⟨t, e⟩ := h.get (i := i) (x := xs.getD i []) (by rw [List.getD_eq_getElem?_getD, List.getElem?_eq_getElem hi]; rfl)
    have e' : vs.getD i .none = .str (T (xs.getD i [])) t := by rw [List.getD_eq_getElem?_getD, e]; rfl
    rw [List.map_cons, List.map_cons, e']
    exact .cons (IsStrs.pick h l fun j hj => hl j (.tail _ hj))
noncomputable def addP1 (ns : List (List Nat)) (ws : List (List (List Nat))) (k : Nat) : List (List (List Nat)) := if ns.take (k + 1) ∈ ws then ws else ws ++ [ns.take (k + 1)]
noncomputable def addP (ws : List (List (List Nat))) (ns : List (List Nat)) : List (List (List Nat)) := (List.range ns.length).foldl (addP1 ns) ws
noncomputable def waysRaw (ds : List (List (List Nat))) : List (List (List Nat)) := ds.foldl (fun ws ts => addP ws (walk ts)) [[]]
/-- what a list of ways keeps -/
structure WOk (ws : List (List (List Nat))) (n : Nat) : Prop where
  nd : ws.Nodup
  good : ∀ p ∈ ws, Good p
  short : ∀ p ∈ ws, p.length ≤ 3
  few : ws.length ≤ n
theorem Good.take {ns : List (List Nat)} (h : Good ns) (k : Nat) : Good (ns.take k) := ⟨fun a ha => h.gl a (List.mem_of_mem_take ha), fun a ha => h.cp a (List.mem_of_mem_take ha)⟩
theorem WOk.add1 {ws : List (List (List Nat))} {n : Nat} (h : WOk ws n) {ns : List (List Nat)} (hg : Good ns) (hl : ns.length ≤ 3) (k : Nat) : WOk (addP1 ns ws k) (n + 1) := by
  unfold addP1
  split
  · exact ⟨h.nd, h.good, h.short, by have := h.few; lia⟩
  · rename_i hn
    refine ⟨?_, ?_, ?_, by have := h.few; simp; lia⟩
    · rw [List.nodup_append]
      refine ⟨h.nd, by simp, fun a ha b hb => ?_⟩
      rw [List.mem_singleton.mp hb]
      exact fun e => hn (e ▸ ha)
    · intro p hp
      rcases List.mem_append.mp hp with hp | hp
      · exact h.good p hp
      · rw [List.mem_singleton.mp hp]; exact hg.take _
    · intro p hp
      rcases List.mem_append.mp hp with hp | hp
      · exact h.short p hp
      · rw [List.mem_singleton.mp hp, List.length_take]; lia
theorem WOk.adds {ns : List (List Nat)} (hg : Good ns) (hl : ns.length ≤ 3) : ∀ (ks : List Nat) {ws : List (List (List Nat))} {n : Nat}, WOk ws n → WOk (ks.foldl (addP1 ns) ws) (n + ks.length)
  | [], _, _, h => h
  | k :: ks, ws, n, h => by
    have := WOk.adds hg hl ks (h.add1 hg hl k)
    rw [List.length_cons, show n + (ks.length + 1) = n + 1 + ks.length by lia]
    exact this
theorem WOk.nil : WOk [[]] 1 := ⟨by simp, fun p hp => by rw [List.mem_singleton.mp hp]; exact Good.nil, fun p hp => by rw [List.mem_singleton.mp hp]; simp, by simp⟩
theorem WOk.mono {ws : List (List (List Nat))} {n m : Nat} (h : WOk ws n) (hm : n ≤ m) : WOk ws m := ⟨h.nd, h.good, h.short, Nat.le_trans h.few hm⟩
end PartPx3

section PartB7
theorem take_strs {vs : List Value} {xs : List (List Nat)} (h : IsStrs vs xs) (k : Nat) : IsStrs (vs.take k) (xs.take k) := by
  obtain ⟨l, rfl, e⟩ := h
  exact ⟨l.take k, by simp [strValues, List.map_take], by rw [List.map_take, e, List.map_take]⟩
theorem foldl_range_succ {α : Type} (f : α → Nat → α) (a : α) (k : Nat) : (List.range (k + 1)).foldl f a = f ((List.range k).foldl f a) k := by rw [List.range_succ, List.foldl_append]; rfl
theorem addP1_len (ns : List (List Nat)) (ws : List (List (List Nat))) (k : Nat) : ws.length ≤ (addP1 ns ws k).length := by
  unfold addP1; split <;> simp
theorem adds_len (ns : List (List Nat)) : ∀ (ks : List Nat) (ws : List (List (List Nat))), ws.length ≤ (ks.foldl (addP1 ns) ws).length
  | [], _ => Nat.le_refl _
  | k :: ks, ws => Nat.le_trans (addP1_len ns ws k) (adds_len ns ks _)
theorem waysRaw_pos (ds : List (List (List Nat))) : 1 ≤ (waysRaw ds).length := by
  unfold waysRaw
  have : ∀ (ds ws : List (List (List Nat))), ws.length ≤ (ds.foldl (fun ws ts => addP ws (walk ts)) ws).length := by
    intro ds
    induction ds with
    | nil => exact fun _ => Nat.le_refl _
    | cons t r ih => exact fun ws => Nat.le_trans (adds_len _ _ _) (ih _)
  exact this ds [[]]
noncomputable def KR (v k : Value) (g : Vis) : Prop := ∃ nl t ws m tk, v = .ref nl ∧ k = .ref t ∧ g t = some (tupO [.int (List.length ws : Int) tk, .ref nl]) ∧ g nl = some (lstO ws m)
theorem KR.mono {v k : Value} {g g' : Vis} (e : Ext g g') (h : KR v k g) : KR v k g' := by
  obtain ⟨nl, t, ws, m, tk, h1, h2, h3, h4⟩ := h
  exact ⟨nl, t, ws, m, tk, h1, h2, e _ _ h3, e _ _ h4⟩
theorem KR.tups {w s₀ L l g pr s} (C : Cx w s₀ L l g pr s) : ∀ {vs ks : List Value}, All2 (fun v k => KR v k g) vs ks → ∃ fs, KatTups s.heap ks fs ∧ fs.length = vs.length ∧ ∀ v ∈ fs, ∃ n t, v = .int n t := by
  intro vs ks h
  induction h with
  | nil => exact ⟨[], .nil, rfl, fun _ h => nomatch h⟩
  | cons h _ ih =>
    obtain ⟨nl, t, ws, m, tk, rfl, rfl, h3, h4⟩ := h
    obtain ⟨fs, a, b, c⟩ := ih
    refine ⟨_ :: fs, .cons (C.at h3) rfl rfl (f := .int (List.length ws : Int) tk) rfl a, by simp [b], fun v hv => ?_⟩
    rcases List.mem_cons.mp hv with rfl | hv
    · exact ⟨_, _, rfl⟩
    · exact c v hv
theorem IsLists.mem {g : Vis} : ∀ {vs : List Value} {xss : List (List (List Nat))} {v : Value}, IsLists g vs xss → v ∈ vs → ∃ a ws m xs, v = .ref a ∧ g a = some (lstO ws m) ∧ IsStrs ws xs ∧ xs ∈ xss
  | v :: vs, xs :: xss, u, h, hm => by
    rcases List.mem_cons.mp hm with rfl | hm
    · obtain ⟨a, ws, m, e, h2, h3⟩ := h.1
      exact ⟨a, ws, m, xs, e, h2, h3, .head _⟩
    · obtain ⟨a, ws, m, ys, e, h2, h3, h4⟩ := IsLists.mem h.2 hm
      exact ⟨a, ws, m, ys, e, h2, h3, .tail _ h4⟩
  | [], _, _, _, hm => by cases hm
  | _ :: _, [], _, h, _ => h.elim
theorem Off.some {x y b : Addr} {g : Vis} {o : Obj} (hx : b ≠ x) (hy : b ≠ y) (h : g b = some o) : Off x y g b = Option.some o := by
  unfold Off; rw [if_neg (by rintro (q | q); exact hx q; exact hy q)]; exact h
theorem cmp_rank {w A s s₀ L l g pr k} {E : Value → Shared → Prop} (C : Cx w s₀ L l g pr s) (hA : Ok (k+1) A) {t1 t2 a1 a2 : Addr} {u1 u2 : List Value} {k1 k2 : Tok} {m1 m2 : Nat} {X Y : List (List Nat)} {Q : Bool → Shared → Prop}
    (h1 : g t1 = some (tupO [.int (List.length u1 : Int) k1, .ref a1])) (h2 : g t2 = some (tupO [.int (List.length u2 : Int) k2, .ref a2])) (ha1 : g a1 = some (lstO u1 m1)) (ha2 : g a2 = some (lstO u2 m2)) (hs1 : IsStrs u1 X) (hs2 : IsStrs u2 Y)
    (cx : ∀ x ∈ X, Cp x) (cy : ∀ y ∈ Y, Cp y) (hq : Q (wlt X Y) s) : wpAny (model P w) A (keyLt' (tuples' (Value.type "int" != Value.type "tuple")) (.ref t1) (.ref t2)) Q E s := by
  have hun := hA.un
  have hcl : A.units < cLine := by unfold cLine; lia
  refine kat_lt (C.at h1) rfl (C.at h2) rfl ?_
  have hb : (Value.type "int" != Value.type "tuple") = true := by decide
  rw [hb]
  refine kat_cons ?_
  refine SeqAt.eqBoolOverData P w A _ s _ _ (.int (List.length u1 : Int)) (.int (List.length u2 : Int)) [] [] _ (.int _ _) (.int _ _) rfl rfl (by simp [PyData.depth]; exact hcl) ?_
  have e0 : PyData.eqv (.int (List.length u1 : Int)) (.int (List.length u2 : Int)) = decide (X.length = Y.length) := by
    show ((List.length u1 : Int) == (List.length u2 : Int)) = _
    rw [hs1.length, hs2.length, Bool.eq_iff_iff]; simp; lia
  rw [e0]
  unfold wlt at hq
  by_cases hl : X.length = Y.length
  · rw [if_pos hl] at hq
    rw [decide_eq_true hl]
    refine kat_yes (kat_cons ?_)
    refine SeqAt.eqBoolOverData P w A _ s _ _ (Ld X) (Ld Y) [a1] [a2] _ (rds_list C ha1 hs1) (rds_list C ha2 hs2) (lay_Ld cx) (lay_Ld cy) (room_of (n := 0) hA (by decide) (Nat.le_trans (dep_Ld Y) (by decide))) ?_
    rw [eqv_Ld]
    by_cases hxy : X = Y
    · rw [decide_eq_true hxy]
      refine kat_yes (kat_nil ?_)
      rw [hxy, llt_irrefl] at hq
      exact hq
    · rw [decide_eq_false hxy]
      refine kat_no (kat_one _ _ ?_)
      exact lt_lists (C.isL ha1) (C.isL ha2) hs1 hs2 cx cy (by unfold cLine; lia) hq
  · rw [if_neg hl] at hq
    rw [decide_eq_false hl]
    refine kat_no ?_
    refine oneLt_int ?_
    rw [hs1.length, hs2.length]
    have : decide ((X.length : Int) < (Y.length : Int)) = decide (X.length < Y.length) := by rw [decide_eq_decide]; lia
    rw [this]; exact hq
theorem ways_c {w A s k} {d : Addr} {dv : List Value} {dm : Nat} {ds : List (List (List Nat))} (kin : (K2 w.params).In s.heap) (hA : Ok (k+6) A) (hd0 : vis s.heap d = some (lstO dv dm)) (hdv : IsLists (vis s.heap) dv ds) (D4 : Drawn4 ds) :
    Spec w A 228 [.ref d] (fun v _ g' => ∃ a vs m W, v = .ref a ∧ g' a = some (lstO vs m) ∧ IsLists g' vs W ∧ W.Perm (waysRaw ds) ∧ W.Pairwise (fun x y => wlt x y = true)) s := by
  refine enter (binds := [("drawn", .ref d)]) kin hA rfl rfl rfl rfl rfl rfl rfl rfl rfl fun L s' C => ?_
  ((with_reducible refine ex_gen ?_); intro Qn hN hO)
  ((with_reducible refine wpAny_Assign_Name ?_ ?e1); (case e1 => exact rfl))
  with_reducible refine lst_ ?_
  ((with_reducible refine wpAny_items_cons ?_ ?e1); (case e1 => exact rfl))
  with_reducible refine lst_ ?_
  with_reducible refine wpAny_items_nil ?_
  refine ⟨by (decide), by walk_at "cx", fun ea s1 hea hea0 C1 => ?_⟩
  with_reducible refine wpAny_items_nil ?_
  refine ⟨by ((show _ ≤ 16777216; simp; done)), by walk_at "cx", fun wa s2 hwa hwa0 C2 => ?_⟩
  (((with_reducible refine st_l (by walk_at "cx") ?e1 ?e2 ?e3 ?_); (case e1 => exact rfl); (case e2 => exact rfl); (case e3 => exact rfl); intro _ _))
  ((with_reducible refine qnx (by assumption) ?_); (try clear hN hO))
  ((with_reducible refine ex_gen ?_); intro Qn hN hO)
  ((with_reducible refine wpAny_For ?_ ?e1); (case e1 => (intro _; rfl)))
  (refine nm_l (by walk_at "cx") rfl rfl rfl rfl rfl ?_)
  rename_i C3
  have hgwa := (put_none hwa).2
  have hewa := (put_none hwa).1
  have Cn := C3.nrm [("ways", .ref wa)] ⟨rfl, trivial⟩
  refine piter_list Cn (Cn.ext _ _ hd0) fun it o s3 hpos C4 => ?_
  refine for_core (iters_list (n := dm) (hA.deeper _).hd) (fun i l g => l = ([("ways", .ref wa)] : List (Str × Value)) ∧ Ext (vis s.heap) g ∧ ∃ vs m ws, g wa = some (lstO vs m) ∧ IsLists (Off wa wa g) vs ws ∧ WOk ws (1 + 3 * i) ∧
      (ds.drop i).foldl (fun ws ts => addP ws (walk ts)) ws = waysRaw ds)
    (fun i l g h => h.2.1 _ _ hd0) (fun i l g g' e h => by obtain ⟨h1, h2, vs, m, ws, h3, h4, h5⟩ := h; exact ⟨h1, h2.trans e, vs, m, ws, e _ _ h3, h4.mono (Off.mono e), h5⟩) ?_ ?_
    ⟨rfl, Cn.ext, _, 0, [[]], put_self _ _ _, ⟨⟨ea, [], 0, rfl, ?_, .nil⟩, trivial⟩, WOk.nil, rfl⟩ hpos C4 (fun _ => rfl)
  · rintro i v l g o' s4 hi ⟨rfl, hext, vs, m, ws, hg, hvs, hok, hall⟩ hv C5
    have hi' : i < ds.length := by rw [← hdv.length]; exact hi
    obtain ⟨ta, tv, tm, e1, hta, htv⟩ := hdv.get (i := i) (xs := ds[i]) (by simp [hi'])
    rw [e1] at hv
    obtain rfl := Option.some.inj hv
    have hmem : ds[i] ∈ ds := List.getElem_mem hi'
    have h3 := D4.three _ hmem
    have hok3 := D4.ok _ hmem
    have hcp := D4.cp _ hmem
    rw [List.drop_eq_getElem_cons hi'] at hall
    generalize ds[i] = ts at *
    with_reducible refine wpAny_assign_Name ?_
    (((with_reducible refine st_l (by walk_at "cx") ?e1 ?e2 ?e3 ?_); (case e1 => exact rfl); (case e2 => exact rfl); (case e3 => exact rfl); intro _ _))
    ((with_reducible refine ex_gen ?_); intro Qn hN hO)
    ((with_reducible refine wpAny_Assign_Name ?_ ?e1); (case e1 => exact rfl))
    with_reducible refine lst_ ?_
    with_reducible refine wpAny_items_nil ?_
    refine ⟨by (decide), by walk_at "cx", fun n0 s6 hn0 hn00 C6 => ?_⟩
    (((with_reducible refine st_l (by walk_at "cx") ?e1 ?e2 ?e3 ?_); (case e1 => exact rfl); (case e2 => exact rfl); (case e3 => exact rfl); intro _ _))
    ((with_reducible refine qnx (by assumption) ?_); (try clear hN hO))
    ((with_reducible refine ex_gen ?_); intro Qn hN hO)
    ((with_reducible refine wpAny_For ?_ ?e1); (case e1 => (intro _; rfl)))
    (refine nm_l (by walk_at "cx") rfl rfl rfl rfl rfl ?_)
    rename_i C7
    have x7 := (Ext.refl g).put (g' := g) (o := lstO [] 0) hn0
    have C8 := C7.nrm [("names", .ref n0), ("ways", .ref wa)] ⟨rfl, rfl, trivial⟩
    refine piter_list C8 (x7 _ _ (hext _ _ hta)) fun it2 o2 s9 hpos2 C9 => ?_
    refine for_core (iters_list (n := tm) (hA.deeper _).hd) (fun j l g' => Ext g g' ∧ ∃ nl ns q, l = ([("names", .ref nl), ("ways", .ref wa)] : List (Str × Value)) ∧ g' nl = some (lstO ns q) ∧ nl ≠ wa ∧ IsStrs ns ((ts.take j).foldl nst []))
      (fun j l g' h => h.1 _ _ (hext _ _ hta)) (fun j l g1 g2 e h => by obtain ⟨h1, nl, ns, q, h2, h3, h4⟩ := h; exact ⟨h1.trans e, nl, ns, q, h2, e _ _ h3, h4⟩) ?_ ?_
      ⟨x7, n0, [], 0, rfl, put_self _ _ _, (Ext.ne hg hn0).symm, .nil⟩ hpos2 C9 (fun _ => rfl)
    · rintro j v l g1 o3 s10 hj ⟨hx1, nl, ns, q, rfl, hnl, hnw, hns⟩ hv C10
      have hj' : j < ts.length := by rw [← htv.length]; exact hj
      obtain ⟨t8, e8⟩ := htv.get (i := j) (x := ts[j]) (by simp [hj'])
      rw [e8] at hv
      obtain rfl := Option.some.inj hv
      have hstep : (ts.take (j + 1)).foldl nst [] = nst ((ts.take j).foldl nst []) ts[j] := by rw [List.take_succ_eq_append_getElem hj', List.foldl_append]; rfl
      have hal : ((ts.take j).foldl nst []).length ≤ 3 := by
        have h8 := nst_len (ts.take j) []
        simp at h8; lia
      generalize ts[j] = c at *
      generalize (ts.take j).foldl nst [] = acc at *
      have hnsl := hns.length
      with_reducible refine wpAny_assign_Name ?_
      (((with_reducible refine st_l (by walk_at "cx") ?e1 ?e2 ?e3 ?_); (case e1 => exact rfl); (case e2 => exact rfl); (case e3 => exact rfl); intro _ _))
      ((with_reducible refine ex_gen ?_); intro Qn hN hO)
      with_reducible refine wpAny_If ?_
      ((with_reducible refine wpAny_isTrue_Compare1 ?_ ?e1); (case e1 => with_unfolding_all rfl))
      (refine nm_l (by walk_at "cx") rfl rfl rfl rfl rfl ?_)
      ((with_reducible refine' const_T ?e1 ?_); (case e1 => first | exact slash_T | exact dot_T | exact dots_T | exact empty_T | exact nl_T | exact crlf_T | exact dcrlf_T | exact a_T | exact da_T | exact ddd_T | exact ah_T | exact sdots_T))
      with_reducible refine PyProof.Rows.eq_str ?_
      with_reducible refine wpAny_truthy_bool ?_
      rw [T_beq]
      by_cases hc2 : c = [46, 46]
      · subst hc2
        refine it_of rfl ?_
        ((with_reducible refine ex_gen ?_); intro Qn hN hO)
        ((with_reducible refine wpAny_Assign_Name ?_ ?e1); (case e1 => exact rfl))
        refine slice_l (fun _ _ => rfl) ?_
        (refine nm_l (by walk_at "cx") rfl rfl rfl rfl rfl ?_)
        (rw [evalPart_none]); with_reducible refine wpAny_pure ?_
        rw [evalPart_some]
        with_reducible refine UnaryOp_ ?_
        with_reducible refine wpAny_Constant_int ?_
        with_reducible refine neg_int ?_
        dsimp only
        have hpick : slicePick ns.toArray none (some (-1)) none = List.toArray (ns.take (ns.length - 1)) := by
          have := slicePick_butLast ns.toArray 1 (by decide)
          simpa using this
        refine ⟨nl, ns, q, none, some (-1), _, rfl, .none, .int _ _, hpick, by lia, by walk_at "cx", hnl, fun D s11 hD hD0 C11 => ?_⟩
        (((with_reducible refine st_l (by walk_at "cx") ?e1 ?e2 ?e3 ?_); (case e1 => exact rfl); (case e2 => exact rfl); (case e3 => exact rfl); intro _ _))
        ((with_reducible refine qnx (by assumption) ?_); (try clear hN hO))
        with_reducible refine wpAny_execs_nil ?_
        ((with_reducible refine qnx (by assumption) ?_); (try clear hN hO))
        with_reducible refine wpAny_execs_nil ?_
        dsimp only
        rename_i C12
        refine ⟨_, _, ⟨hx1.trans ((Ext.refl _).put hD), D, _, 0, rfl, put_self _ _ _, (Ext.ne (hx1 _ _ hg) hD).symm, ?_⟩, C12.nrm _ ⟨rfl, rfl, trivial⟩⟩
        rw [hstep]; unfold nst
        rw [if_neg (by simp), if_pos rfl, List.dropLast_eq_take, hnsl]
        exact take_strs hns _
      · refine it_no (beq_eq_false_iff_ne.mpr hc2) ?_
        ((with_reducible refine ex_gen ?_); intro Qn hN hO)
        with_reducible refine wpAny_If ?_
        with_reducible refine isTrue_and ?_
        ((with_reducible refine wpAny_isTrue_Compare1 ?_ ?e1); (case e1 => with_unfolding_all rfl))
        (refine nm_l (by walk_at "cx") rfl rfl rfl rfl rfl ?_)
        ((with_reducible refine' const_T ?e1 ?_); (case e1 => first | exact slash_T | exact dot_T | exact dots_T | exact empty_T | exact nl_T | exact crlf_T | exact dcrlf_T | exact a_T | exact da_T | exact ddd_T | exact ah_T | exact sdots_T))
        with_reducible refine PyProof.Rows.ne_str ?_
        with_reducible refine wpAny_truthy_bool ?_
        dsimp only
        rw [T_bne]
        by_cases hc0 : c = []
        · subst hc0
          refine it_no rfl ?_
          with_reducible refine it_f ?_
          with_reducible refine wpAny_execs_nil ?_
          ((with_reducible refine qnx (by assumption) ?_); (try clear hN hO))
          with_reducible refine wpAny_execs_nil ?_
          ((with_reducible refine qnx (by assumption) ?_); (try clear hN hO))
          with_reducible refine wpAny_execs_nil ?_
          dsimp only
          rename_i C12
          refine ⟨_, _, ⟨hx1, nl, ns, q, rfl, hnl, hnw, ?_⟩, Cx.nrm (by walk_at "cx") _ ⟨rfl, rfl, trivial⟩⟩
          rw [hstep]; unfold nst; rw [if_pos (.inl rfl)]; exact hns
        · refine it_of (bne_iff_ne.mpr hc0) ?_
          with_reducible refine isTrue_and ?_
          ((with_reducible refine wpAny_isTrue_Compare1 ?_ ?e1); (case e1 => with_unfolding_all rfl))
          (refine nm_l (by walk_at "cx") rfl rfl rfl rfl rfl ?_)
          ((with_reducible refine' const_T ?e1 ?_); (case e1 => first | exact slash_T | exact dot_T | exact dots_T | exact empty_T | exact nl_T | exact crlf_T | exact dcrlf_T | exact a_T | exact da_T | exact ddd_T | exact ah_T | exact sdots_T))
          with_reducible refine PyProof.Rows.ne_str ?_
          with_reducible refine wpAny_truthy_bool ?_
          dsimp only
          rw [T_bne]
          by_cases hc1 : c = [46]
          · subst hc1
            refine it_no rfl ?_
            with_reducible refine it_f ?_
            with_reducible refine wpAny_execs_nil ?_
            ((with_reducible refine qnx (by assumption) ?_); (try clear hN hO))
            with_reducible refine wpAny_execs_nil ?_
            ((with_reducible refine qnx (by assumption) ?_); (try clear hN hO))
            with_reducible refine wpAny_execs_nil ?_
            dsimp only
            refine ⟨_, _, ⟨hx1, nl, ns, q, rfl, hnl, hnw, ?_⟩, Cx.nrm (by walk_at "cx") _ ⟨rfl, rfl, trivial⟩⟩
            rw [hstep]; unfold nst; rw [if_pos (.inr rfl)]; exact hns
          · refine it_of (bne_iff_ne.mpr hc1) ?_
            with_reducible refine isTrue_and_nil ?_
            with_reducible refine it_t ?_
            ((with_reducible refine ex_gen ?_); intro Qn hN hO)
            ((with_reducible refine wpAny_Assign_Name ?_ ?e1); (case e1 => exact rfl))
            with_reducible refine wpAny_BinOp ?_
            (refine nm_l (by walk_at "cx") rfl rfl rfl rfl rfl ?_)
            with_reducible refine lst_ ?_
            ((with_reducible refine wpAny_items_cons ?_ ?e1); (case e1 => exact rfl))
            (refine nm_l (by walk_at "cx") rfl rfl rfl rfl rfl ?_)
            with_reducible refine wpAny_items_nil ?_
            refine ⟨by ((show _ ≤ 16777216; simp; done)), by walk_at "cx", fun D1 s11 hD1 hD10 C11 => ?_⟩
            refine add_lst C11 (by rw [put_ne _ _ (Ext.ne hnl hD1)]; exact hnl) (put_self _ _ _) (by simp; lia) fun D s12 hD hD0 C12 => ?_
            (((with_reducible refine st_l (by walk_at "cx") ?e1 ?e2 ?e3 ?_); (case e1 => exact rfl); (case e2 => exact rfl); (case e3 => exact rfl); intro _ _))
            ((with_reducible refine qnx (by assumption) ?_); (try clear hN hO))
            with_reducible refine wpAny_execs_nil ?_
            ((with_reducible refine qnx (by assumption) ?_); (try clear hN hO))
            with_reducible refine wpAny_execs_nil ?_
            ((with_reducible refine qnx (by assumption) ?_); (try clear hN hO))
            with_reducible refine wpAny_execs_nil ?_
            dsimp only
            rename_i C13
            have xx := (((Ext.refl g1).put (o := lstO [.str (T c) t8] 0) hD1).put (o := lstO (ns ++ [.str (T c) t8]) 0) (a := D) ?_)
            refine ⟨_, _, ⟨hx1.trans xx, D, _, 0, rfl, put_self _ _ _, ?_, ?_⟩, C13.nrm _ ⟨rfl, rfl, trivial⟩⟩
            · exact (Ext.ne (((Ext.refl g1).put (o := lstO [.str (T c) t8] 0) hD1) _ _ (hx1 _ _ hg)) hD).symm
            · rw [hstep]; unfold nst; rw [if_neg (by simp [hc0, hc1]), if_neg hc2]; exact hns.snoc
            · exact (put_none hD).2
    · rintro l g1 s10 ⟨hx1, nl, ns, q, rfl, hnl, hnw, hns⟩ C10
      rw [htv.length, List.take_length] at hns
      ((with_reducible refine qnx (by assumption) ?_); (try clear hN hO))
      ((with_reducible refine ex_gen ?_); intro Qn hN hO)
      ((with_reducible refine wpAny_For ?_ ?e1); (case e1 => (intro _; rfl)))
      (with_reducible refine nm_call ?_)
      (refine nm_b (by walk_at "cx") rfl rfl rfl rfl rfl rfl rfl ?_)
      (refine' ct1 ?e2 ?_); (case e2 => exact rfl)
      (with_reducible refine nm_call ?_)
      (refine nm_b (by walk_at "cx") rfl rfl rfl rfl rfl rfl rfl ?_)
      (refine' cb1 ?e2 ?_); (case e2 => exact rfl)
      (refine nm_l (by walk_at "cx") rfl rfl rfl rfl rfl ?_)
      have hwl := walk_len ts
      have hns' : IsStrs ns (walk ts) := hns
      have hnn := hns'.length
      have hgood : Good (walk ts) := walk_good hok3 hcp
      refine Calls.call_len_list (C10.isList hnl) (by simp; lia) ?_
      refine range1 (n := ns.length) (by walk_at "cx") fun r t1 t2 t3 s11 hr hr0 C11 => ?_
      refine piter_range C11 (put_self _ _ _) (by lia) fun it3 o4 s12 hpos3 C12 => ?_
      have xr := (Ext.refl g1).put (o := rngO ns.length t1 t2 t3) hr
      refine for_core (iters_range (hA.deeper _).hd) (fun j l g' => l = ([("names", .ref nl), ("ways", .ref wa)] : List (Str × Value)) ∧ Ext (vis s.heap) g' ∧ g' nl = some (lstO ns q) ∧ ∃ vs m, g' wa = some (lstO vs m) ∧ IsLists (Off wa wa g') vs ((List.range j).foldl (addP1 (walk ts)) ws))
        (fun _ _ _ _ => trivial) (fun j l g1 g2 e h => by obtain ⟨h1, h2, h3, vs, m, h4, h5⟩ := h; exact ⟨h1, h2.trans e, e _ _ h3, vs, m, e _ _ h4, h5.mono (Off.mono e)⟩) ?_ ?_
        ⟨rfl, (hext.trans hx1).trans xr, xr _ _ hnl, vs, m, xr _ _ (hx1 _ _ hg), hvs.mono (Off.mono (hx1.trans xr))⟩ hpos3 C12 (fun _ => rfl)
      · rintro j v l g2 o5 s13 hj ⟨rfl, hext2, hnl2, vs2, m2, hg2, hvs2⟩ ⟨tv, rfl⟩ C13
        have hj' : j < (walk ts).length := by lia
        have W2 := hok.adds hgood (by lia) (List.range j)
        rw [List.length_range] at W2
        generalize hws2 : (List.range j).foldl (addP1 (walk ts)) ws = ws2 at *
        with_reducible refine wpAny_assign_Name ?_
        (((with_reducible refine st_l (by walk_at "cx") ?e1 ?e2 ?e3 ?_); (case e1 => exact rfl); (case e2 => exact rfl); (case e3 => exact rfl); intro _ _))
        ((with_reducible refine ex_gen ?_); intro Qn hN hO)
        with_reducible refine wpAny_If ?_
        ((with_reducible refine wpAny_isTrue_Compare1 ?_ ?e1); (case e1 => with_unfolding_all rfl))
        refine slice_l (fun _ _ => rfl) ?_
        (refine nm_l (by walk_at "cx") rfl rfl rfl rfl rfl ?_)
        (rw [evalPart_none]); with_reducible refine wpAny_pure ?_
        rw [evalPart_some]
        with_reducible refine wpAny_BinOp ?_
        (refine nm_l (by walk_at "cx") rfl rfl rfl rfl rfl ?_)
        with_reducible refine wpAny_Constant_int ?_
        with_reducible refine add_int ?_
        dsimp only
        have hpick : slicePick ns.toArray none (some ((j : Int) + 1)) none = List.toArray (ns.take (j + 1)) := by
          have := slicePick_upto' ns.toArray (j + 1)
          simpa using this
        refine ⟨nl, ns, q, none, some ((j : Int) + 1), _, rfl, .none, .int _ _, hpick, by lia, by walk_at "cx", hnl2, fun D s14 hD hD0 C14 => ?_⟩
        (refine nm_l (by walk_at "cx") rfl rfl rfl rfl rfl ?_)
        have hDw := Ext.ne hg2 hD
        have xD := (Ext.refl g2).put (o := lstO (ns.take (j + 1)) 0) hD
        refine notin_lists (by walk_at "cx") (xD _ _ hg2) ((hvs2.mono (Off.ext _ _ _)).mono xD) (put_self _ _ _) (take_strs hns' (j + 1)) (hA.deeper _) (fun xs hx => (W2.good xs hx).cp) (hgood.take (j + 1)).cp ?_
        with_reducible refine wpAny_truthy_bool ?_
        have hstep : (List.range (j + 1)).foldl (addP1 (walk ts)) ws = addP1 (walk ts) ws2 j := by rw [foldl_range_succ, hws2]
        by_cases hin : (walk ts).take (j + 1) ∈ ws2
        · refine it_no (by simp [hin]) ?_
          with_reducible refine wpAny_execs_nil ?_
          ((with_reducible refine qnx (by assumption) ?_); (try clear hN hO))
          with_reducible refine wpAny_execs_nil ?_
          dsimp only
          refine ⟨_, _, ⟨rfl, hext2.trans xD, xD _ _ hnl2, vs2, m2, xD _ _ hg2, ?_⟩, Cx.nrm (by walk_at "cx") _ ⟨rfl, rfl, trivial⟩⟩
          rw [hstep, addP1, if_pos hin]
          exact hvs2.mono (Off.mono xD)
        · refine it_of (by simp [hin]) ?_
          ((with_reducible refine ex_gen ?_); intro Qn hN hO)
          ((with_reducible refine wpAny_Expr ?_ ?e1 ?e2); (case e1 => exact rfl); (case e2 => exact rfl))
          (refine' Call_method1 ?e1 ?e2 ?e3 ?_); (case e1 => exact rfl); (case e2 => exact rfl); (case e3 => exact rfl)
          (refine nm_l (by walk_at "cx") rfl rfl rfl rfl rfl ?_)
          refine m_append (by walk_at "cx") (xD _ _ hg2) ?_
          refine slice_l (fun _ _ => rfl) ?_
          (refine nm_l (by walk_at "cx") rfl rfl rfl rfl rfl ?_)
          (rw [evalPart_none]); with_reducible refine wpAny_pure ?_
          rw [evalPart_some]
          with_reducible refine wpAny_BinOp ?_
          (refine nm_l (by walk_at "cx") rfl rfl rfl rfl rfl ?_)
          with_reducible refine wpAny_Constant_int ?_
          with_reducible refine add_int ?_
          dsimp only
          refine ⟨nl, ns, q, none, some ((j : Int) + 1), _, rfl, .none, .int _ _, hpick, by lia, by walk_at "cx", xD _ _ hnl2, fun D2 s15 hD2 hD20 C15 => ?_⟩
          have xD2 := (Ext.refl (put g2 D (lstO (ns.take (j + 1)) 0))).put (o := lstO (ns.take (j + 1)) 0) hD2
          have hgw2 := xD2 _ _ (xD _ _ hg2)
          have hD2w := Ext.ne (xD _ _ hg2) hD2
          refine ⟨C15, hgw2, by have := W2.few; have := D4.few; have := hvs2.length; lia, hwa0, fun s16 C16 => ?_⟩
          ((with_reducible refine qnx (by assumption) ?_); (try clear hN hO))
          with_reducible refine wpAny_execs_nil ?_
          ((with_reducible refine qnx (by assumption) ?_); (try clear hN hO))
          with_reducible refine wpAny_execs_nil ?_
          dsimp only
          refine ⟨_, _, ⟨rfl, ((hext2.trans xD).trans xD2).put hgwa, ?_, _, _, put_self _ _ _, ?_⟩, C16.nrm _ ⟨rfl, rfl, trivial⟩⟩
          · rw [put_ne _ _ hnw]; exact xD2 _ _ (xD _ _ hnl2)
          · rw [hstep, addP1, if_neg hin, Off.put1]
            refine (hvs2.mono (Off.mono (xD.trans xD2))).snoc (ws := ns.take (j + 1)) (m := 0) ?_ (take_strs hns' (j + 1))
            unfold Off
            rw [if_neg (by simp; exact hD2w.symm), put_self]
      · rintro l g2 s13 ⟨rfl, hext2, hnl2, vs2, m2, hg2, hvs2⟩ C13
        ((with_reducible refine qnx (by assumption) ?_); (try clear hN hO))
        with_reducible refine wpAny_execs_nil ?_
        dsimp only
        rename_i C14
        have W2 := hok.adds hgood (by lia) (List.range (walk ts).length)
        rw [List.length_range] at W2
        rw [hnn] at hvs2
        refine ⟨_, _, ⟨rfl, hext2, vs2, m2, _, hg2, hvs2, W2.mono (by lia), hall⟩, C13.nrm [("ways", .ref wa)] ⟨rfl, trivial⟩⟩
  · rintro l g s4 ⟨rfl, hext, vs, m, ws, hg, hvs, hok, hall⟩ C5
    rw [List.drop_eq_nil_of_le (by rw [hdv.length]; exact Nat.le_refl _)] at hall
    ((with_reducible refine qnx (by assumption) ?_); (try clear hN hO))
    ((with_reducible refine ex_gen ?_); intro Qn hN hO)
    with_reducible refine wpAny_Return_some ?_
    have hws : ws = waysRaw ds := hall
    have hpos1 : 1 ≤ ws.length := by rw [hws]; exact waysRaw_pos ds
    have hvl := hvs.length
    have hIs : IsLists g vs ws := hvs.mono (Off.ext _ _ _)
    refine wpAny_Call_Name_kw ?_
    (refine nm_b (by walk_at "cx") rfl rfl rfl rfl rfl rfl rfl ?_)
    refine' cbk1 ?e1 ?e2 ?e3 ?e4 ?_
    case e1 => exact rfl
    case e2 => exact rfl
    case e3 => exact rfl
    case e4 => exact rfl
    (refine nm_l (by walk_at "cx") rfl rfl rfl rfl rfl ?_)
    (refine nm_g (by walk_at "cx") rfl rfl rfl rfl rfl ?_)
    dsimp only
    have kst := hok.few
    rw [hdv.length] at kst
    have d4 := D4.few
    refine sorted_key (KO := KR) (κ := tuples' (Value.type "int" != Value.type "tuple")) (lt := fun i j => wlt (ws.getD i []) (ws.getD j [])) C5 hg (by lia) (by lia) (ksk_s1 _ _) (fun x => ksk_l1 _ _) (fun x => ksk_t1 _ x) (fun v k g g' e h => h.mono e) ?hkey ?hkind ?hcmp ?hO ?hQ
    case hkey =>
      intro v hv x y g' s' Q' e hx hy hx' hy' C' hQ'
      obtain ⟨nl, ns, q, xs, rfl, h2, h3, h4⟩ := hIs.mem hv
      have hl3 := hok.short xs h4
      have hnl := h3.length
      refine use C' (rank_c (k := k) (Cx.k C') (((hA.deeper _).in1).in1.mono (by lia)) (by rw [C'.vis]; exact e _ _ h2) (by lia)) fun r g'' s'' e'' p'' C'' => ?_
      obtain ⟨a, t, rfl, ha, ha'⟩ := p''
      refine hQ' _ g'' s'' e'' ⟨nl, a, ns, q, t, rfl, rfl, ?_, ?_⟩ C''
      · exact Off.some (fun q => hx' (q ▸ ha)) (fun q => hy' (q ▸ ha)) ha'
      · exact Off.some (Ext.ne h2 hx) (Ext.ne h2 hy) (e'' _ _ (e _ _ h2))
    case hkind =>
      intro h2 ks g' s' Q' e C' hall' hq
      obtain ⟨fs, t1, t2, t3⟩ := KR.tups C' hall'
      exact kat_kind t1 (by lia) (fun v hv => by obtain ⟨n, t, rfl⟩ := t3 v hv; exact Looks.of_pure rfl) (by decide) hq
    case hcmp =>
      intro i j ki kj hi hj g' s' Q' e C' h1 h2 hq
      rw [hvl] at hi hj
      have hI' := hIs.mono e
      obtain ⟨a1, ws1, m1, e1, ha1, hs1⟩ := hI'.get (i := i) (xs := ws.getD i []) (by rw [List.getD_eq_getElem?_getD, List.getElem?_eq_getElem hi]; rfl)
      obtain ⟨a2, ws2, m2, e2, ha2, hs2⟩ := hI'.get (i := j) (xs := ws.getD j []) (by rw [List.getD_eq_getElem?_getD, List.getElem?_eq_getElem hj]; rfl)
      obtain ⟨n1, t1, u1, q1, k1, f1, rfl, gt1, gn1⟩ := h1
      obtain ⟨n2, t2, u2, q2, k2, f2, rfl, gt2, gn2⟩ := h2
      rw [List.getD_eq_getElem?_getD, e1] at f1
      rw [List.getD_eq_getElem?_getD, e2] at f2
      obtain rfl : a1 = n1 := by simpa using f1
      obtain rfl : a2 = n2 := by simpa using f2
      rw [ha1] at gn1; rw [ha2] at gn2
      have w1 : ws1 = u1 := by have := Option.some.inj gn1; simpa [lstO] using congrArg (fun o => match o.data with | .seq v _ => v.toList | _ => []) this
      have w2 : ws2 = u2 := by have := Option.some.inj gn2; simpa [lstO] using congrArg (fun o => match o.data with | .seq v _ => v.toList | _ => []) this
      subst w1; subst w2
      have gi := hok.good (ws.getD i []) (getD_mem hi)
      have gj := hok.good (ws.getD j []) (getD_mem hj)
      have l1 := hs1.length
      have l2 := hs2.length
      refine cmp_rank C' (((hA.deeper _).in1).in1.mono (j := k + 1) (by lia)) gt1 gt2 ha1 ha2 hs1 hs2 gi.cp gj.cp ?_
      exact hq g' s' (Ext.refl _) C'
    case hO => rw [hvl]; exact sord_wlt hok.nd
    case hQ =>
      intro D p m2 g' s' hsh has e hD hD0 hgD C'
      rw [hvl] at hsh has
      have so := sort_out (d := []) (lt' := wlt) hsh has
      ((with_reducible refine qot (by assumption) ?e1 ?_); (case e1 => exact fun h => nomatch h); (try clear hN hO))
      dsimp only
      refine ⟨C'.to, D, _, m2, p.toList.map fun i => ws.getD i [], rfl, by rw [C'.vis]; exact hgD, ?_, by rw [← hws]; exact so.1, so.2⟩
      rw [C'.vis]
      refine (hIs.mono e).pick p.toList fun i hi => ?_
      have := (hsh.perm.mem_iff (a := i)).mp hi
      simpa using this
  · unfold Off
    rw [if_neg (by simp; exact Ne.symm hewa), put_ne _ _ (Ne.symm hewa)]
    exact put_self _ _ _
end PartB7

section PartE1
noncomputable def cellO (v : Option Value) : Obj := { cls := .type "cell", data := .cell v }
section
variable {w : World} {A : Around} {E : Value → Shared → Prop} {s s₀ : Shared} {L : Addr} {l : List (Str × Value)} {g : Vis} {pr : List (Addr × Obj)} {env : Env}
theorem nm_c {x : Str} {pos : Pos} {c : Addr} {v : Value} {Q : Value → Shared → Prop} (C : Cx w s₀ L l g pr s) (hk : env.scope.kind = .function) (hx : env.kindOf x = some .cell) (hc : env.cells.lookup x = some c) (hdb : (x == ("__debug__" : Str)) = false) (hg : g c = some (cellO (some v))) (h : Q v s) :
    wpAny (model P w) A (eval (.Name x pos) env) Q E s :=
  wpAny_Name (wpAny_loadName_cell hk hx hc ⟨_, C.at hg, rfl⟩ h) hdb
theorem nm_f {x : Str} {pos : Pos} {c : Addr} {v : Value} {Q : Value → Shared → Prop} (C : Cx w s₀ L l g pr s) (hk : env.scope.kind = .function) (hx : env.kindOf x = some .free) (hc : env.cells.lookup x = some c) (hdb : (x == ("__debug__" : Str)) = false) (hcd : (x == ("__classdict__" : Str)) = false) (hg : g c = some (cellO (some v))) (h : Q v s) :
    wpAny (model P w) A (eval (.Name x pos) env) Q E s :=
  wpAny_Name (wpAny_loadName_free hk hx hc ⟨_, C.at hg, rfl⟩ h hcd) hdb
theorem st_c {x : Str} {c : Addr} {v : Value} {v₀ : Option Value} {Q : Unit → Shared → Prop} (C : Cx w s₀ L l g pr s) (hk : env.scope.kind = .function) (hx : env.kindOf x = some .cell) (hc : env.cells.lookup x = some c) (hg : g c = some (cellO v₀)) (h0 : s₀.heap.get? c = none)
    (h : ∀ s', Cx w s₀ L l (put g c (cellO (some v))) pr s' → Q () s') : wpAny (model P w) A (storeName env x v) Q E s := by
  have ho := C.at hg
  unfold storeName
  simp only [hx, hk]
  refine wpAny_bind (wpAny_cellOf hc ?_)
  unfold cellSet
  refine wpAny_bind (wpAny_load ho ?_)
  refine wpAny_update ho ?_
  exact h _ (C.upd (o' := cellO (some v)) hg h0 (Heap.SameBut.update ..) (Heap.get?_update_self _ ho rfl) rfl s.toks)
theorem binds_nil {f : Str × Value → PUnit → Sem (ForInStep PUnit)} {Q : PUnit → Shared → Prop} (h : Q ⟨⟩ s) : wpAny (model P w) A (forIn ([] : List (Str × Value)) PUnit.unit f) Q E s := by
  rw [List.forIn_nil]; exact wpAny_pure h
theorem binds_cons {n : Str} {v : Value} {r : List (Str × Value)} {f : Str × Value → PUnit → Sem (ForInStep PUnit)} {Q : PUnit → Shared → Prop} (hf : f (n, v) ⟨⟩ = (do storeName env n v; pure (.yield ⟨⟩)))
    (h : wpAny (model P w) A (storeName env n v) (fun _ s' => wpAny (model P w) A (forIn r PUnit.unit f) Q E s') E s) : wpAny (model P w) A (forIn ((n, v) :: r) PUnit.unit f) Q E s := by
  rw [List.forIn_cons, hf]
  exact wpAny_bind (wpAny_bind (wpAny_mono h (fun _ s' q => wpAny_pure q) fun _ _ q => q))
end
/-- a call of a def with one cell -/
theorem enterC {w : World} {A : Around} {s : Shared} {f : Addr} {args : List Value} {Post : Value → Vis → Vis → Prop} {fd : FuncData} {body : List Stmt} {binds : List (Str × Value)} {oc od osl k}
    (kin : (K2 w.params).In s.heap) (hA : Ok k A)
    (hl : (K2 w.params).lookup f = some ⟨oc, od, .func fd, osl⟩)
    (hcd : codeIn (K2 w.params) fd.code fd.qualname = true)
    (hbody : fd.body = .stmts body) (hbind : bindArgs fd ⟨args, []⟩ = pure binds) (hclo : fd.closure = [])
    (hcell : ∀ h : Heap, pushCells h fd.scope.names = h.push (cellO none))
    (hco : fd.scope.isCoroutine = false) (hgen : fd.scope.isGenerator = false) (hk : fd.scope.kind = .function)
    (h : ∀ L s' (Q' : PUnit → Shared → Prop) (E' : Value → Shared → Prop) A', vis s.heap (L + 1) = none → s.heap.get? (L + 1) = none → Cx w s L [] (put (vis s.heap) (L + 1) (cellO none)) [] s' →
      (∀ l g s'', Cx w s L l g [] s'' → wpAny (model P w) (A.deeper (callEnvC fd L f)) (execs body (callEnvC fd L f)) (fun fl s' => To s s' ∧ Post (match fl with | .ret v => v | _ => .none) (vis s.heap) (vis s'.heap)) (fun _ _ => False) s'' → Q' ⟨⟩ s'') →
      wpAny (model P w) A' (forIn binds PUnit.unit fun x _ => do storeName (callEnvC fd L f) x.1 x.2; pure (ForInStep.yield PUnit.unit)) Q' E' s') :
    Spec w A f args Post s := by
  intro R E hR
  refine wpAny_call (codeAny_call_function hA.room (kin _ _ hl) rfl hco hgen hbody (codeRec_of kin hcd) (BindsTo.of_eq hbind _ _ _ _ ?_))
  rw [hclo]
  simp only [newFunctionEnv, Option.isSome_none, Bool.false_eq_true, if_false]
  refine wpAny_bind (wpAny_alloc ?_)
  refine wpAny_bind (wpAny_layCells _ (fun name kind cells => by cases hkc : kind == NameKind.cell <;> simp [hkc]) _ _ _ _ ?_)
  have hsz : (s.heap.push { cls := .type "frame", data := .dict #[] }).objs.size = s.heap.objs.size + 1 := Heap.size_push ..
  have hnone : s.heap.get? s.heap.objs.size = none := size_none _
  have hv0 : ∀ b o, s.heap.get? b = some o → (s.heap.push { cls := .type "frame", data := .dict #[] }).get? b = some o := fun b o e => Heap.get?_push_of_some _ e
  have C0 : Cx w s s.heap.objs.size [] (vis s.heap) [] { s with heap := s.heap.push { cls := .type "frame", data := .dict #[] } } := by
    refine ⟨kin, hv0, hnone, ⟨fun _ => none, Heap.Ns.new s.heap (.type "frame"), fun x v e => by cases e⟩, ?_, rfl, rfl, rfl, (fun _ h => nomatch h), List.nodup_nil⟩
    funext b
    by_cases hb : b = s.heap.objs.size
    · rw [hb, vis_hid (Heap.get?_push_size _ rfl) rfl, vis_none hnone]
    · exact vis_congr (Heap.get?_push_ne _ _ _ hb)
  have z := C0.push (o := cellO none) rfl rfl s.toks
  have z0 := size_none₀ C0
  have z1 := z.1
  have z2 := z.2
  change s.heap.get? (s.heap.push { cls := .type "frame", data := .dict #[] }).objs.size = none at z0
  change vis s.heap (s.heap.push { cls := .type "frame", data := .dict #[] }).objs.size = none at z1
  change Cx w s s.heap.objs.size [] (put (vis s.heap) (s.heap.push { cls := .type "frame", data := .dict #[] }).objs.size (cellO none)) [] { s with heap := (s.heap.push { cls := .type "frame", data := .dict #[] }).push (cellO none) } at z2
  rw [hsz] at z0 z1 z2
  dsimp only
  simp only [hcell, hsz]
  show wpAny (model P w) A.in1 (do
      forIn binds PUnit.unit fun x __s => do
          storeName (callEnvC fd s.heap.objs.size f) x.fst x.snd
          pure (ForInStep.yield PUnit.unit)
      pure (callEnvC fd s.heap.objs.size f)) _ _ _
  refine wpAny_bind (wpAny_mono (h s.heap.objs.size _ (fun _ s' => (K2 w.params).In s'.heap ∧ wpAny (model P w) (A.deeper (callEnvC fd s.heap.objs.size f)) (execs body (callEnvC fd s.heap.objs.size f))
    (fun fl s' => To s s' ∧ Post (match fl with | .ret v => v | _ => .none) (vis s.heap) (vis s'.heap)) (fun _ _ => False) s') _ _ z1 z0 z2 (fun l g s'' C q => ⟨C.k, q⟩)) (fun _ s' q => ?_) fun _ _ q => q)
  refine wpAny_pure ?_
  refine ⟨noLimit q.1, codeAny_func ?_⟩
  exact wpAny_mono q.2 (fun fl s' q => hR _ _ q.1 q.2) (fun _ _ q => q.elim)
end PartE1

section PartE2
section
variable {w : World} {A : Around} {E : Value → Shared → Prop} {s s₀ : Shared} {L : Addr} {l : List (Str × Value)} {g : Vis} {pr : List (Addr × Obj)} {env : Env}
theorem Cx.perm {pr' : List (Addr × Obj)} (C : Cx w s₀ L l g pr s) (h : pr.Perm pr') : Cx w s₀ L l g pr' s :=
  ⟨C.kin, C.keep, C.new, C.loc, C.vis, C.gens, C.drawn, C.os, fun p hp => C.prot p (h.mem_iff.mpr hp), (h.map _).nodup_iff.mp C.nd⟩
/-- the other names are looked at -/
theorem Cx.swap {B : Addr} {oB : Obj} {lB : List (Str × Value)} (C : Cx w s₀ L l g ((B, oB) :: pr) s) (hB : ∃ m, s.heap.Ns B m ∧ ∀ x v, lB.lookup x = some v → m x = some v) : ∃ oL, Cx w s₀ B lB g ((L, oL) :: pr) s ∧ ∃ m, s.heap.Ns L m ∧ ∀ x v, l.lookup x = some v → m x = some v := by
  obtain ⟨m, hn, hm⟩ := C.loc
  have hn' := hn
  obtain ⟨oL, es, ep, ho, hd, _⟩ := hn'
  have pB := C.prot (B, oB) (.head _)
  have nd := List.nodup_cons.mp C.nd
  refine ⟨oL, ⟨C.kin, C.keep, pB.2.2.2, hB, C.vis, C.gens, C.drawn, C.os, fun p hp => ?_, List.nodup_cons.mpr ⟨fun hm => ?_, nd.2⟩⟩, m, hn, hm⟩
  · rcases List.mem_cons.mp hp with rfl | hp
    · exact ⟨ho, pB.2.1.symm, by unfold hid; rw [hd]; rfl, C.new⟩
    · have q := C.prot p (.tail _ hp)
      exact ⟨q.1, fun e => nd.1 (List.mem_map.mpr ⟨p, hp, e⟩), q.2.2⟩
  · obtain ⟨p, hp, e⟩ := List.mem_map.mp hm
    exact (C.prot p (.tail _ hp)).2.1 e
/-- the other names again -/
theorem Cx.back {B : Addr} {oL : Obj} {lB : List (Str × Value)} {s4 : Shared} {m : Str → Option Value} (C : Cx w s₀ B lB g ((L, oL) :: pr) s) (h4 : s4.heap.get? L = some oL) (hn : s4.heap.Ns L m) (hm : ∀ x v, l.lookup x = some v → m x = some v) : ∃ oB, Cx w s₀ L l g ((B, oB) :: pr) s := by
  have q := C.prot (L, oL) (.head _)
  obtain ⟨ob, es, ep, ho, hd, r⟩ := hn
  rw [h4] at ho
  obtain rfl := Option.some.inj ho
  obtain ⟨oB, z, _⟩ := C.swap (lB := l) ⟨m, ⟨oL, es, ep, q.1, hd, r⟩, hm⟩
  exact ⟨oB, z⟩
theorem list_append {D : Addr} {x : Value} {vs : List Value} {n : Nat} {Q : Value → Shared → Prop} (C : Cx w s₀ L l g pr s) (hg : g D = some (lstO vs n)) (h0 : s₀.heap.get? D = none) (hl : vs.length ≤ 100000)
    (hQ : ∀ s', Cx w s₀ L l (put g D (lstO (vs ++ [x]) (n + 1))) pr s' → Q .none s') : wpAny (model P w) A (call (.builtin "list.append") [.ref D, x]) Q E s := by
  refine wpAny_call_entry F.slot_list_append ⟨_, C.at hg, rfl⟩ F.entry_list_append ?_ (F.args_list_append_2 _ _)
  show wpAny _ _ (updateSeq D (·.push x) >>= fun _ => ret .none) _ _ s
  refine wpAny_bind (wpAny_updateSeq (o := lstO vs n) (C.at hg) rfl (wpAny_pure ⟨.none, rfl, hQ _ ?_⟩) (by simp [sizeLine_eq]; lia) (by simp [sizeLine_eq]; lia))
  exact lst_upd C hg h0 (by simp) (by simp)
end
section
variable {w : World} {A : Around} {E : Value → Shared → Prop} {s s₀ : Shared} {L : Addr} {l : List (Str × Value)} {g : Vis} {pr : List (Addr × Obj)} {env : Env}
/-- the loop of a comprehension, seen from its own names -/
theorem comp_loop {n : Nat} {IP : Nat → Value → Vis → Prop} {it C D : Addr} {oL o : Obj} {Pos : Nat → Obj → Prop} {St : Vis → Prop} {elt target iter : Expr} {ifs : List Expr} {scope : Scope} {pos} {cenv : Env} {R : Result → Shared → Prop} {ys0 : List Value} {m0 : Nat}
    (I : Iters w A n IP it Pos St) (J : Nat → List Value → Vis → Prop)
    (hSt : ∀ i ys g, J i ys g → St g) (hJ : ∀ i ys g g', Ext g g' → J i ys g → J i ys g') (hlen : ∀ i ys g, J i ys g → ys.length ≤ 10000) (hStE : ∀ g g', Ext g g' → St g → St g')
    (hD0 : s₀.heap.get? D = none)
    (turn : ∀ i v ys g o' s, i < n → g D ≠ none → J i ys (Off D D g) → IP i v g → Cx w s₀ C [] g ((it, o') :: (L, oL) :: pr) s →
      wpAny (model P w) A (assign target cenv v) (fun _ s₂ => wpAny (model P w) A (forIn ifs true fun c r => if r = true then do let ok ← isTrue c cenv (eval c cenv); pure (ForInStep.yield ok) else pure (ForInStep.yield r)) (fun ok s₃ =>
        if ok = true then wpAny (model P w) A (eval elt cenv) (fun x s₄ => ∃ l' g', Ext g g' ∧ J (i + 1) (ys ++ [x]) (Off D D g') ∧ Cx w s₀ C l' g' ((it, o') :: (L, oL) :: pr) s₄) (fun _ _ => False) s₃
        else ∃ l' g', Ext g g' ∧ J (i + 1) ys (Off D D g') ∧ Cx w s₀ C l' g' ((it, o') :: (L, oL) :: pr) s₃) (fun _ _ => False) s₂) (fun _ _ => False) s)
    (fin : ∀ ys m g s', J n ys (Off D D g) → g D = some (lstO ys m) → Cx w s₀ C [] g ((L, oL) :: pr) s' → R (.ok .next) s')
    (j0 : J 0 ys0 (Off D D g)) (g0 : g D = some (lstO ys0 m0)) (p0 : Pos 0 o) (Cc : Cx w s₀ C [] g ((it, o) :: (L, oL) :: pr) s) (ht : ∀ v, letOwnedTupleGo target (.ref it) v = pure ()) :
    codeAny (model P w) A (.compLoop (.ListComp elt [⟨target, iter, ifs, 0⟩] scope pos) 0 (.ref it) (.ref D) cenv) R s := by
  refine codeAny_compLoop_tests (I := fun k s => ∃ i o ys m g, k = n - i ∧ i ≤ n ∧ Pos i o ∧ J i ys (Off D D g) ∧ g D = some (lstO ys m) ∧ Cx w s₀ C [] g ((it, o) :: (L, oL) :: pr) s) ?_ n ⟨0, o, ys0, m0, g, rfl, Nat.zero_le _, p0, j0, g0, Cc⟩ ht
  rintro k s ⟨i, o, ys, m, g, rfl, hi, hp, hj, hg, C1⟩
  have hst : St g := hStE _ _ (Off.ext _ _ _) (hSt _ _ _ hj)
  by_cases h : i < n
  · refine I.next h hp hst C1 fun v o' g' s' e ip hp' C2 => ?_
    dsimp only
    refine wpAny_mono (turn i v ys g' o' s' h (by rw [e _ _ hg]; exact fun z => nomatch z) (hJ _ _ _ _ (Off.mono e) hj) ip C2) (fun _ s₂ h₂ => wpAny_mono h₂ (fun ok s₃ h₃ => ?_) fun _ _ q => q.elim) fun _ _ q => q.elim
    cases ok with
    | false =>
      obtain ⟨l', g2, e2, j2, C3⟩ := h₃
      exact ⟨n - (i + 1), by lia, i + 1, o', ys, m, g2, rfl, h, hp', j2, e2 _ _ (e _ _ hg), C3.nrm [] trivial⟩
    | true =>
      refine wpAny_mono h₃ (fun x s₄ h₄ => ?_) fun _ _ q => q.elim
      obtain ⟨l', g2, e2, j2, C3⟩ := h₄
      refine list_append C3 (e2 _ _ (e _ _ hg)) hD0 (by have := hlen _ _ _ hj; lia) fun s' C4 => ?_
      refine ⟨n - (i + 1), by lia, i + 1, o', _, _, _, rfl, h, hp', ?_, put_self _ _ _, C4.nrm [] trivial⟩
      rw [Off.put1]; exact j2
  · have : i = n := by lia
    subst this
    refine I.stop hp hst C1 fun g' s' e C2 => ?_
    exact fin ys m g' s' (hJ _ _ _ _ (Off.mono e) hj) (e _ _ hg) C2
end
end PartE2

section PartE3
theorem Cx.newB {w s₀ L l g pr} {s : Shared} (C : Cx w s₀ L l g pr s) {d0 oB : Obj} {h₁ : Heap} {es ep} (hs : Heap.SameBut s.heap.objs.size (s.heap.push d0) h₁) (ho : h₁.get? s.heap.objs.size = some oB) (hd : oB.data = .dict es ep) (t : Nat) :
    Cx w s₀ L l g ((s.heap.objs.size, oB) :: pr) { s with heap := h₁, toks := t } := by
  obtain ⟨m, hn, hm⟩ := C.loc
  have ne : ∀ b o, s.heap.get? b = some o → b ≠ s.heap.objs.size := fun b o e => Nat.ne_of_lt (Heap.lt_size e)
  have kp : ∀ b o, s.heap.get? b = some o → h₁.get? b = some o := fun b o e => (hs.2 b (ne b o e)).trans (Heap.get?_push_of_some _ e)
  have hh : hid oB = true := by unfold hid; rw [hd]; rfl
  refine ⟨C.kin, fun b o e => kp b o (C.keep b o e), C.new, ⟨m, hn.keeps kp, hm⟩, ?_, C.gens, C.drawn, C.os, fun p hp => ?_, List.nodup_cons.mpr ⟨fun hmm => ?_, C.nd⟩⟩
  · rw [← C.vis]
    funext b
    by_cases hb : b = s.heap.objs.size
    · rw [hb, vis_hid ho hh, vis_none (size_none _)]
    · exact vis_congr ((hs.2 b hb).trans (Heap.get?_push_ne _ _ _ hb))
  · rcases List.mem_cons.mp hp with rfl | hp
    · exact ⟨ho, C.Lne, hh, size_none₀ C⟩
    · exact ⟨kp _ _ (C.prot p hp).1, (C.prot p hp).2⟩
  · obtain ⟨p, hp, e⟩ := List.mem_map.mp hmm
    exact ne _ _ (C.prot p hp).1 e
section
variable {w : World} {A : Around} {E : Value → Shared → Prop} {s : Shared} {env : Env}
/-- what a comprehension is told ahead of its loop -/
inductive CompAt (w : World) (A : Around) (env : Env) (scope : Scope) (cl : List (Str × Addr)) (elt target iter : Expr) (ifs : List Expr) (it : Addr) (Fin : Shared → Addr → List (Str × Value) → List (Addr × Obj) → List Value → Vis → Prop) (s₂ : Shared) : Prop
  | intro {s₀ : Shared} {L : Addr} {l : List (Str × Value)} {g : Vis} {pr : List (Addr × Obj)} (o : Obj) (n : Nat) (IP : Nat → Value → Vis → Prop) (Pos : Nat → Obj → Prop) (St : Vis → Prop) (J : Nat → List Value → Vis → Prop)
    (I : Iters w A n IP it Pos St)
    (C0 : Cx w s₀ L l g ((it, o) :: pr) s₂)
    (hL : env.locals = L)
    (p0 : Pos 0 o)
    (j0 : J 0 [] g)
    (hSt : ∀ i ys g, J i ys g → St g)
    (hJ : ∀ i ys g g', Ext g g' → J i ys g → J i ys g')
    (hlen : ∀ i ys g, J i ys g → ys.length ≤ 10000)
    (hStE : ∀ g g', Ext g g' → St g → St g')
    (hself : ∀ (Q : Value → Shared → Prop) (E : Value → Shared → Prop) s₀ L l g pr s, Cx w s₀ L l g ((it, o) :: pr) s → Q (.ref it) s → wpAny (model P w) A (pyIter (.ref it)) Q E s)
    (ht : ∀ v, letOwnedTupleGo target (.ref it) v = pure ())
    (turn : ∀ C D oL i v ys g o' s, i < n → g D ≠ none → J i ys (Off D D g) → IP i v g → Cx w s₀ C [] g ((it, o') :: (L, oL) :: pr) s →
      wpAny (model P w) A (assign target (compEnvC scope cl C env) v) (fun _ s₂ => wpAny (model P w) A (forIn ifs true fun c r => if r = true then do let ok ← isTrue c (compEnvC scope cl C env) (eval c (compEnvC scope cl C env)); pure (ForInStep.yield ok) else pure (ForInStep.yield r)) (fun ok s₃ =>
        if ok = true then wpAny (model P w) A (eval elt (compEnvC scope cl C env)) (fun x s₄ => ∃ l' g', Ext g g' ∧ J (i + 1) (ys ++ [x]) (Off D D g') ∧ Cx w s₀ C l' g' ((it, o') :: (L, oL) :: pr) s₄) (fun _ _ => False) s₃
        else ∃ l' g', Ext g g' ∧ J (i + 1) ys (Off D D g') ∧ Cx w s₀ C l' g' ((it, o') :: (L, oL) :: pr) s₃) (fun _ _ => False) s₂) (fun _ _ => False) s)
    (fin : ∀ ys g, J n ys g → Fin s₀ L l pr ys g) :
    CompAt w A env scope cl elt target iter ifs it Fin s₂
theorem comp_go {scope : Scope} {cl : List (Str × Addr)} {elt target iter : Expr} {ifs : List Expr} {it : Addr} {pos : Pos} {Fin : Shared → Addr → List (Str × Value) → List (Addr × Obj) → List Value → Vis → Prop} {R : Addr → Addr → Result → Shared → Prop}
    (h : CompAt w A env scope cl elt target iter ifs it Fin s) (hcell : ∀ y ∈ scope.names, y.2 ≠ .cell) (hkind : scope.kind = .function)
    (hR : ∀ s₀ L l pr C D ys m g oC s', env.locals = L → Fin s₀ L l pr ys (Off D D g) → g D = some (lstO ys m) → Cx w s₀ L l g ((C, oC) :: pr) s' → (∃ mC, s'.heap.Ns C mC) → R D C (.ok .next) s') :
    wpAny (model P w) A (newList []) (fun acc s₃ => wpAny (model P w) A (newFunctionEnv scope env.globals cl [] env.qual none .none (some env)) (fun cenv s₄ =>
      ∃ D, acc = .ref D ∧ codeAny (model P w) A (.compStart (.ListComp elt [⟨target, iter, ifs, 0⟩] scope pos) 0 (.ref it) acc { cenv with scope := relabel scope env }) (R D cenv.locals) s₄) E s₃) E s := by
  obtain @⟨s₀, L, l, g, pr, o, n, IP, Pos, St, J, I, C0, hL, p0, j0, hSt, hJ, hlen, hStE, hself, ht, turn, fin⟩ := h
  refine wpAny_newList ?_ (by simp [sizeLine_eq])
  refine mk_obj (o := lstO [] 0) (Q := fun acc s₃ => wpAny (model P w) A (newFunctionEnv scope env.globals cl [] env.qual none .none (some env)) (fun cenv s₄ =>
      ∃ D, acc = .ref D ∧ codeAny (model P w) A (.compStart (.ListComp elt [⟨target, iter, ifs, 0⟩] scope pos) 0 (.ref it) acc { cenv with scope := relabel scope env }) (R D cenv.locals) s₄) E s₃) C0 rfl rfl fun D s1 hD hD0 C1 => ?_
  refine wpAny_newFunctionEnv hcell (by intro y hy; simp at hy) (fun h₁ hns₁ hsb₁ => ?_) hkind
  refine ⟨D, rfl, ?_⟩
  have hns2 := hns₁
  obtain ⟨oC, es, ep, hoC, hdC, rC⟩ := hns2
  have C2 := C1.newB hsb₁ hoC hdC (s1.toks + ([] : List (Str × Value)).length)
  have hns3 : h₁.Ns s1.heap.objs.size fun x => ([] : List (Str × Value)).reverse.lookup x := ⟨oC, es, ep, hoC, hdC, rC⟩
  obtain ⟨oL, C3, mL, hnL, hmL⟩ := C2.swap (lB := []) ⟨_, hns3, fun x v e => by cases e⟩
  have C4 := C3.perm (pr' := (it, o) :: (L, oL) :: pr) (List.Perm.swap ..)
  have hoL := (C4.prot (L, oL) (.tail _ (.head _))).1
  have hx : Ext g (Off D D (put g D (lstO [] 0))) := Off.of ((Ext.refl g).put hD) hD hD
  have loop : codeAny (model P w) A (.compLoop (.ListComp elt [⟨target, iter, ifs, 0⟩] scope pos) 0 (.ref it) (.ref D) (compEnvC scope cl s1.heap.objs.size env)) (R D s1.heap.objs.size) { s1 with heap := h₁, toks := s1.toks + ([] : List (Str × Value)).length } := by
    refine comp_loop I J hSt hJ hlen hStE hD0 (fun i v ys g o' s => turn s1.heap.objs.size D oL i v ys g o' s) (fun ys m g s' hj hg C' => ?_) (hJ _ _ _ _ hx j0) (put_self _ _ _) p0 C4 ht
    obtain ⟨oB, Cb⟩ := C'.back hoL hnL hmL
    obtain ⟨mC, hnC, _⟩ := C'.loc
    exact hR s₀ L l pr _ D ys m g oB s' hL (fin ys _ hj) hg Cb ⟨mC, hnC⟩
  exact codeAny_compStart_list loop (hself _ _ _ _ _ _ _ _ C4 loop)
end
section
variable {w : World} {A : Around} {E : Value → Shared → Prop} {s : Shared} {env : Env}
/-- a comprehension as an expression -/
theorem comp_e {scope : Scope} {cl : List (Str × Addr)} {elt target iter : Expr} {ifs : List Expr} {pos : Pos} {Q : Value → Shared → Prop}
    (hclos : closureFor scope env = pure cl) (hcell : ∀ y ∈ scope.names, y.2 ≠ .cell) (hkind : scope.kind = .function) (hnames : ∀ y ∈ scope.names, y.2 = .local → scope.names.lookup y.1 = some .local)
    (hs : ∀ x, foldedSetIterable iter env x = pure x)
    (h : wpAny (model P w) A (eval iter env) (fun xv s₁ => wpAny (model P w) A (pyIter xv) (fun iv s₂ => ∃ it, iv = .ref it ∧ CompAt w A env scope cl elt target iter ifs it
      (fun s₀ L l pr ys g => ∀ D g' m s', Ext g g' → g' D = some (lstO ys m) → Cx w s₀ L l g' pr s' → Q (.ref D) s') s₂) E s₁) E s) :
    wpAny (model P w) A (eval (.ListComp elt [⟨target, iter, ifs, 0⟩] scope pos) env) Q E s := by
  rw [eval_ListComp]
  refine wpAny_comprehension_free (use := none) rfl hs hclos hkind hnames (wpAny_mono h (fun xv s₁ h₁ => wpAny_mono h₁ (fun iv s₂ h₂ => ?_) fun _ _ e => e) fun _ _ e => e)
  obtain ⟨it, rfl, hc⟩ := h₂
  refine wpAny_mono (comp_go (R := fun D C => compPost (model P w) A E none Q (.ref D) C) (E := E) (pos := pos) hc hcell hkind ?_) (fun acc s₃ h₃ => wpAny_mono h₃ (fun cenv s₄ h₄ => ?_) fun _ _ e => e) fun _ _ e => e
  · rintro s₀ L l pr C D ys m g oC s' hL hfin hg Cb ⟨mC, hnC⟩
    refine ⟨mC, hnC, fun h' hs' => ?_⟩
    have z := Cb.dropP (fun b x hb e => (hs'.2 b hb).trans e) s'.toks
    exact hfin D _ m _ ((Off.ext _ _ _).trans z.1) (z.1 _ _ hg) z.2
  · obtain ⟨D, rfl, hcode⟩ := h₄
    exact hcode
end
section
variable {w : World} {A : Around} {E : Value → Shared → Prop} {s : Shared} {env : Env}
/-- a comprehension stored at once -/
theorem comp_s {scope : Scope} {cl : List (Str × Addr)} {elt target iter : Expr} {ifs : List Expr} {y : Str} {py pos spos : Pos} {Q : Flow → Shared → Prop}
    (hsw : swapsWith (.ListComp elt [⟨target, iter, ifs, 0⟩] scope pos) (some (.Name y py)) spos.line env = pure true)
    (hclos : closureFor scope env = pure cl) (hcell : ∀ y ∈ scope.names, y.2 ≠ .cell) (hkind : scope.kind = .function) (hnames : ∀ y ∈ scope.names, y.2 = .local → scope.names.lookup y.1 = some .local)
    (hs : ∀ x, foldedSetIterable iter env x = pure x) (hy : env.kindOf y = some .local) (hk : env.scope.kind = .function)
    (h : wpAny (model P w) A (eval iter env) (fun xv s₁ => wpAny (model P w) A (pyIter xv) (fun iv s₂ => ∃ it, iv = .ref it ∧ CompAt w A env scope cl elt target iter ifs it
      (fun s₀ L l pr ys g => ∀ D g' m s', Ext g g' → g' D = some (lstO ys m) → Cx w s₀ L ((y, .ref D) :: l) g' pr s' → Q .next s') s₂) E s₁) E s) :
    wpAny (model P w) A (exec (.Assign [.Name y py] (.ListComp elt [⟨target, iter, ifs, 0⟩] scope pos) spos) env) Q E s := by
  rw [exec_Assign_Name_used _ _ _ _ hsw]
  refine wpAny_bind (wpAny_standAt (wpAny_bind ?_))
  show wpAny _ A (do let _ ← comprehension (.ListComp elt [⟨target, iter, ifs, 0⟩] scope pos) scope env _ (newList []) false (eval iter env) (some (assign (.Name y py) env))) _ _ s
  refine wpAny_bind (wpAny_mono (wpAny_comprehension_free (use := some (assign (.Name y py) env)) (Q := fun _ s' => Q .next s') rfl hs hclos hkind hnames
    (wpAny_mono h (fun xv s₁ h₁ => wpAny_mono h₁ (fun iv s₂ h₂ => ?_) fun _ _ e => e) fun _ _ e => e)) (fun _ s' hq => wpAny_pure (wpAny_pure hq)) fun _ _ e => e)
  obtain ⟨it, rfl, hc⟩ := h₂
  refine wpAny_mono (comp_go (R := fun D C => compPost (model P w) A E (some (assign (.Name y py) env)) (fun _ s' => Q .next s') (.ref D) C) (E := E) (pos := pos) hc hcell hkind ?_) (fun acc s₃ h₃ => wpAny_mono h₃ (fun cenv s₄ h₄ => ?_) fun _ _ e => e) fun _ _ e => e
  · rintro s₀ L l pr C D ys m g oC s' hL hfin hg Cb ⟨mC, hnC⟩
    show wpAny _ A (assign (.Name y py) env (.ref D)) _ _ _
    refine wpAny_assign_Name (st_l Cb hL hy hk fun s'' Cs => ?_)
    have q := (Cs.prot (C, oC) (.head _)).1
    have q0 := (Cb.prot (C, oC) (.head _)).1
    obtain ⟨ob, es, ep, ho, r⟩ := hnC
    rw [q0] at ho
    obtain rfl := Option.some.inj ho
    refine ⟨mC, ⟨_, es, ep, q, r⟩, fun h' hs' => ?_⟩
    have z := Cs.dropP (fun b x hb e => (hs'.2 b hb).trans e) s''.toks
    exact hfin D _ m _ ((Off.ext _ _ _).trans z.1) (z.1 _ _ hg) z.2
  · obtain ⟨D, rfl, hcode⟩ := h₄
    exact hcode
end
end PartE3

section PartE4
section
variable {w : World} {A : Around} {E : Value → Shared → Prop} {s s₀ : Shared} {L : Addr} {l : List (Str × Value)} {g : Vis} {pr : List (Addr × Obj)} {env : Env}
theorem tests0 {Q : Bool → Shared → Prop} (h : Q true s) : wpAny (model P w) A (forIn ([] : List Expr) true fun c r => if r = true then do let ok ← isTrue c env (eval c env); pure (ForInStep.yield ok) else pure (ForInStep.yield r)) Q E s := by
  rw [List.forIn_nil]; exact wpAny_pure h
theorem tests1 {c : Expr} {Q : Bool → Shared → Prop} (h : wpAny (model P w) A (isTrue c env (eval c env)) Q E s) : wpAny (model P w) A (forIn [c] true fun c r => if r = true then do let ok ← isTrue c env (eval c env); pure (ForInStep.yield ok) else pure (ForInStep.yield r)) Q E s := by
  rw [List.forIn_cons]
  rw [if_pos rfl]
  exact wpAny_bind (wpAny_bind (wpAny_mono h (fun ok s' q => wpAny_pure (wpAny_pure q)) fun _ _ q => q))
theorem eq_lists {k : Nat} {a b : Addr} {vs ws : List Value} {n m : Nat} {ys xs : List (List Nat)} {Q : Value → Shared → Prop} (C : Cx w s₀ L l g pr s) (ha : g a = some (lstO vs n)) (hv : IsStrs vs ys)
    (hb : g b = some (lstO ws m)) (hw : IsStrs ws xs) (hA : Ok (k + 1) A) (hc : ∀ x ∈ ys, Cp x) (hx : ∀ x ∈ xs, Cp x) (h : Q (.bool (decide (ys = xs))) s) : wpAny (model P w) A (compareOp .Eq (.ref a) (.ref b)) Q E s := by
  refine SeqAt.compareEq_reads (rds_list C ha hv) (rds_list C hb hw) (lay_Ld hc) (lay_Ld hx) (room_of hA (n := 0) (by decide) (Nat.le_trans (dep_Ld xs) (by decide))) ?_
  rw [eqv_Ld]; exact h
theorem self_list {a it : Addr} {Q : Value → Shared → Prop} {o : Obj} (C : Cx w s₀ L l g ((it, o) :: pr) s) {i : Nat} (hp : ltPos a i o) (h : Q (.ref it) s) : wpAny (model P w) A (pyIter (.ref it)) Q E s :=
  wpAny_pyIter_listiter (it := it) (l := a) (i := i) ⟨o, (C.prot _ (.head _)).1, hp.1, hp.2⟩ h
end
noncomputable def kids (W : List (List (List Nat))) (ns : List (List Nat)) : List (List Nat) := (W.filter fun x => decide (x ≠ []) && decide (x.dropLast = ns)).map fun x => x.getLastD []
noncomputable def toldL (W : List (List (List Nat))) : List Nat := (W.map fun ns => quo (inter 47 (kids W ns)) ++ [13, 10]).flatten ++ [46, 13, 10]
end PartE4

section PartE5
noncomputable def rowL (W : List (List (List Nat))) (ns : List (List Nat)) : List Nat := quo (inter 47 (kids W ns)) ++ [13, 10]
theorem kids_step (W : List (List (List Nat))) (ns : List (List Nat)) {j : Nat} (h : j < W.length) : kids (W.take (j + 1)) ns = kids (W.take j) ns ++ (if W[j] ≠ [] ∧ W[j].dropLast = ns then [W[j].getLastD []] else []) := by
  unfold kids
  rw [List.take_succ_eq_append_getElem h, List.filter_append, List.map_append]
  congr 1
  by_cases h1 : W[j] ≠ [] ∧ W[j].dropLast = ns
  · rw [if_pos h1, List.filter_cons_of_pos (by simp [h1])]; rfl
  · rw [if_neg h1, List.filter_cons_of_neg (by simpa using h1)]; rfl
theorem quo_yes {x : List Nat} (h : x.take 1 = [46]) : quo x = [46] ++ x := by
  unfold quo
  cases x with
  | nil => cases h
  | cons c r => simp at h; simp [h]
theorem quo_no {x : List Nat} (h : ¬ x.take 1 = [46]) : quo x = x := by
  unfold quo
  cases x with
  | nil => rfl
  | cons c r => simp at h; simp [h]
theorem kids_len (W : List (List (List Nat))) (ns : List (List Nat)) : (kids W ns).length ≤ W.length := by
  unfold kids
  rw [List.length_map]
  exact List.length_filter_le _ _
theorem kids_3 {W : List (List (List Nat))} (hl3 : ∀ x ∈ W, ∀ y ∈ x, y.length ≤ 3) (ns : List (List Nat)) : ∀ x ∈ kids W ns, x.length ≤ 3 := by
  intro x hx
  unfold kids at hx
  obtain ⟨y, hy, rfl⟩ := List.mem_map.mp hx
  have hy' := List.mem_filter.mp hy
  rcases List.eq_nil_or_concat y with h | ⟨w', z, h⟩
  · subst h; simp
  · rw [List.concat_eq_append] at h
    subst h
    rw [List.getLastD_concat]
    exact hl3 _ hy'.1 _ (by simp)
theorem flat_le {α : Type} (f : α → List Nat) {B : Nat} : ∀ l : List α, (∀ x ∈ l, (f x).length ≤ B) → (l.map f).flatten.length ≤ l.length * B
  | [], _ => Nat.zero_le _
  | a :: r, h => by
    have h1 := h a (.head _)
    have h2 := flat_le f r fun x hx => h x (.tail _ hx)
    simp only [List.map_cons, List.flatten_cons, List.length_append, List.length_cons, Nat.add_mul]
    lia
theorem rowL_len {W : List (List (List Nat))} (hn : W.length ≤ 60) (hl3 : ∀ x ∈ W, ∀ y ∈ x, y.length ≤ 3) (ns : List (List Nat)) : (rowL W ns).length ≤ 243 := by
  have h1 := kids_len W ns
  have h2 := inter_le 47 (B := 3) (kids_3 hl3 ns)
  have h3 : (quo (inter 47 (kids W ns))).length ≤ (inter 47 (kids W ns)).length + 1 := by unfold quo; split <;> simp
  unfold rowL
  simp only [List.length_append, List.length_cons, List.length_nil]
  lia
theorem rows_len (W : List (List (List Nat))) (hn : W.length ≤ 60) (hl3 : ∀ x ∈ W, ∀ y ∈ x, y.length ≤ 3) (i : Nat) : ((W.take i).map (rowL W)).flatten.length ≤ 14580 := by
  have h1 := flat_le (rowL W) (B := 243) (W.take i) fun x _ => rowL_len hn hl3 x
  have h2 : (W.take i).length ≤ 60 := by rw [List.length_take]; lia
  have h3 : (W.take i).length * 243 ≤ 60 * 243 := Nat.mul_le_mul_right _ h2
  lia
theorem told_c {w A s k} {d : Addr} {dv : List Value} {dm : Nat} {W : List (List (List Nat))} (kin : (K2 w.params).In s.heap) (hA : Ok (k+2) A) (hd0 : vis s.heap d = some (lstO dv dm)) (hdv : IsLists (vis s.heap) dv W)
    (hn : W.length ≤ 60) (hs : ∀ x ∈ W, x.length ≤ 3) (hc : ∀ x ∈ W, ∀ y ∈ x, Cp y) (hl3 : ∀ x ∈ W, ∀ y ∈ x, y.length ≤ 3) :
    Spec w A 238 [.ref d] (fun v _ _ => ∃ tk, v = .str (T (toldL W)) tk) s := by
  refine enterC (k := k+2) (binds := [("ways", .ref d)]) kin hA rfl rfl rfl rfl rfl (fun _ => rfl) rfl rfl rfl fun L s' Q' E' A' hL hL0 C hq => ?_
  refine binds_cons rfl ?_
  (((with_reducible refine st_l (by walk_at "cx") ?e1 ?e2 ?e3 ?_); (case e1 => exact rfl); (case e2 => exact rfl); (case e3 => exact rfl); intro _ _))
  rename_i C1
  refine binds_nil ?_
  refine hq _ _ _ C1 ?_
  clear hq C
  ((with_reducible refine ex_gen ?_); intro Qn hN hO)
  ((with_reducible refine wpAny_Assign_Name ?_ ?e1); (case e1 => exact rfl))
  ((with_reducible refine' const_T ?e1 ?_); (case e1 => first | exact slash_T | exact dot_T | exact dots_T | exact empty_T | exact nl_T | exact crlf_T | exact dcrlf_T | exact a_T | exact da_T | exact ddd_T | exact ah_T | exact sdots_T))
  (((with_reducible refine st_l (by walk_at "cx") ?e1 ?e2 ?e3 ?_); (case e1 => exact rfl); (case e2 => exact rfl); (case e3 => exact rfl); intro _ _))
  ((with_reducible refine qnx (by assumption) ?_); (try clear hN hO))
  ((with_reducible refine ex_gen ?_); intro Qn hN hO)
  ((with_reducible refine wpAny_For ?_ ?e1); (case e1 => (intro _; rfl)))
  (refine nm_l (by walk_at "cx") rfl rfl rfl rfl rfl ?_)
  have x1 := (Ext.refl (vis s.heap)).put (o := cellO none) hL
  have hdl := hdv.length
  refine piter_list (by walk_at "cx") (x1 _ _ hd0) fun it o s3 hpos C4 => ?_
  refine for_core (iters_list (n := dm) (hA.deeper _).hd) (fun i l g => Ext (vis s.heap) g ∧ (∃ v, g (L + 1) = some (cellO v)) ∧ ∃ t l', l = (("letter", .str (T ((W.take i).map (rowL W)).flatten) t) :: ("ways", .ref d) :: l' : List (Str × Value)))
    (fun i l g h => h.1 _ _ hd0) (fun i l g g' e h => ⟨h.1.trans e, ⟨_, e _ _ h.2.1.choose_spec⟩, h.2.2⟩) ?_ ?_ ⟨x1, ⟨_, put_self _ _ _⟩, _, [], rfl⟩ hpos C4 (fun _ => rfl)
  · rintro i v l g o' s4 hi ⟨hx, ⟨cv, hcv⟩, t, l', rfl⟩ hv C5
    have hi' : i < W.length := by lia
    obtain ⟨na, nv, nm, e1, hna, hnv⟩ := hdv.get (i := i) (xs := W[i]) (by simp [hi'])
    rw [e1] at hv
    obtain rfl := Option.some.inj hv
    have C6 := C5.nrm [("letter", .str (T ((W.take i).map (rowL W)).flatten) t), ("ways", .ref d)] ⟨rfl, rfl, trivial⟩
    clear C5
    refine wpAny_assign_Name (st_c (v := .ref na) C6 rfl rfl rfl hcv hL0 fun s5 C7 => ?_)
    have x7 := hx.put (o := cellO (some (.ref na))) hL
    ((with_reducible refine ex_gen ?_); intro Qn hN hO)
    ((with_reducible refine wpAny_Assign_Name ?_ ?e1); (case e1 => exact rfl))
    (refine' Call_method1 ?e1 ?e2 ?e3 ?_); (case e1 => exact rfl); (case e2 => exact rfl); (case e3 => exact rfl)
    ((with_reducible refine' const_T ?e1 ?_); (case e1 => first | exact slash_T | exact dot_T | exact dots_T | exact empty_T | exact nl_T | exact crlf_T | exact dcrlf_T | exact a_T | exact da_T | exact ddd_T | exact ah_T | exact sdots_T))
    refine m_join ?_
    refine comp_e rfl (by decide) rfl (by decide) (fun _ => rfl) ?_
    (refine nm_l (by walk_at "cx") rfl rfl rfl rfl rfl ?_)
    clear C6 C4 C1
    refine piter_list (by walk_at "cx") (x7 _ _ hd0) fun it2 o2 s6 hpos2 C8 => ?_
    refine ⟨it2, rfl, ⟨o2, dv.length, _, ltPos d, _, fun j ys g => Ext (vis s.heap) g ∧ g (L + 1) = some (cellO (some (.ref na))) ∧ IsStrs ys (kids (W.take j) W[i]), iters_list (n := dm) (hA.deeper _).hd, C8, rfl, hpos2, ⟨x7, put_self _ _ _, .nil⟩,
      fun j ys g h => h.1 _ _ hd0, fun j ys g g' e h => ⟨h.1.trans e, e _ _ h.2.1, h.2.2⟩, ?_, fun g g' e h => e _ _ h, fun Q E s₀ L l g pr s C hq => self_list C hpos2 hq, fun _ => rfl, ?_, ?_⟩⟩
    · rintro j ys g ⟨_, _, h⟩
      rw [h.length]
      unfold kids
      have := List.length_filter_le (fun x => decide (x ≠ []) && decide (x.dropLast = W[i])) (W.take j)
      rw [List.length_map]
      rw [List.length_take] at this
      lia
    · intro C D oL j v ys g1 o1 s7 hj hDn hJ hv C9
      obtain ⟨hxo, hco, hys⟩ := hJ
      have hj' : j < W.length := by lia
      obtain ⟨wa, wv, wm, e2, hwa, hwv⟩ := hdv.get (i := j) (xs := W[j]) (by simp [hj'])
      rw [e2] at hv
      obtain rfl := Option.some.inj hv
      have hx9 := hxo.trans (Off.ext _ _ _)
      have hc9 := Off.ext D D g1 _ _ hco
      have hwa9 := hx9 _ _ hwa
      have hw3 := hs _ (List.getElem_mem hj')
      have hcw := hc _ (List.getElem_mem hj')
      have hlw := hl3 _ (List.getElem_mem hj')
      have hci := hc _ (List.getElem_mem hi')
      have hstep := kids_step W W[i] hj'
      generalize W[j] = ws at *
      generalize W[i] = ns at *
      clear C8 C7
      with_reducible refine wpAny_assign_Name ?_
      (((with_reducible refine st_l (by walk_at "cx") ?e1 ?e2 ?e3 ?_); (case e1 => exact rfl); (case e2 => exact rfl); (case e3 => exact rfl); intro _ _))
      refine tests1 ?_
      with_reducible refine isTrue_and ?_
      ((with_reducible refine wpAny_isTrue_Compare1 ?_ ?e1); (case e1 => with_unfolding_all rfl))
      (refine nm_l (by walk_at "cx") rfl rfl rfl rfl rfl ?_)
      with_reducible refine lst_ ?_
      with_reducible refine wpAny_items_nil ?_
      refine ⟨by (decide), by walk_at "cx", fun ea s8 hea hea0 C10 => ?_⟩
      have xe := (Ext.refl g1).put (o := lstO [] 0) hea
      refine ne_lists C10 (xe _ _ hwa9) hwv (put_self _ _ _) .nil (hA.deeper _) hcw (fun _ h => nomatch h) ?_
      with_reducible refine wpAny_truthy_bool ?_
      by_cases hw0 : ws = []
      · refine it_no (by simp [hw0]) ?_
        with_reducible refine it_f ?_
        rw [if_neg (by simp [hw0]), List.append_nil] at hstep
        refine ⟨_, _, xe, ⟨hxo.trans (Off.mono xe), Off.mono xe _ _ hco, ?_⟩, C10⟩
        rw [hstep]; exact hys
      · refine it_of (by simp [hw0]) ?_
        with_reducible refine isTrue_and ?_
        ((with_reducible refine wpAny_isTrue_Compare1 ?_ ?e1); (case e1 => with_unfolding_all rfl))
        refine slice_l (fun _ _ => rfl) ?_
        (refine nm_l (by walk_at "cx") rfl rfl rfl rfl rfl ?_)
        (rw [evalPart_none]); with_reducible refine wpAny_pure ?_
        rw [evalPart_some]
        with_reducible refine UnaryOp_ ?_
        with_reducible refine wpAny_Constant_int ?_
        with_reducible refine neg_int ?_
        dsimp only
        have hwl := hwv.length
        have hpick : slicePick wv.toArray none (some (-1)) none = List.toArray (wv.take (wv.length - 1)) := by
          have := slicePick_butLast wv.toArray 1 (by decide)
          simpa using this
        refine ⟨wa, wv, wm, none, some (-1), _, rfl, .none, .int _ _, hpick, by lia, by walk_at "cx", xe _ _ hwa9, fun D2 s11 hD2 hD20 C11 => ?_⟩
        have x2 := xe.put (o := lstO (wv.take (wv.length - 1)) 0) (a := D2) ?_
        refine nm_c (c := L + 1) (by walk_at "cx") rfl rfl rfl rfl (by exact x2 _ _ hc9) ?_
        refine eq_lists C11 (put_self _ _ _) (take_strs hwv _) (x2 _ _ (hx9 _ _ hna)) hnv (hA.deeper _) (fun x h => hcw x (List.mem_of_mem_take h)) hci ?_
        rw [hwl, ← List.dropLast_eq_take]
        with_reducible refine wpAny_truthy_bool ?_
        by_cases he : ws.dropLast = ns
        · refine it_of (by simp [he]) ?_
          with_reducible refine isTrue_and_nil ?_
          with_reducible refine it_t ?_
          ((with_reducible refine Subscript_UnaryOp ?_ ?e1); (case e1 => (intro _ _; rfl)))
          (refine nm_l (by walk_at "cx") rfl rfl rfl rfl rfl ?_)
          with_reducible refine UnaryOp_ ?_
          with_reducible refine wpAny_Constant_int ?_
          with_reducible refine neg_int ?_
          dsimp only
          rcases List.eq_nil_or_concat ws with h | ⟨w', z, h⟩
          · exact absurd h hw0
          rw [List.concat_eq_append] at h
          obtain ⟨tz, wv', e3, hwv'⟩ := IsStrs.snoc_inv (h ▸ hwv)
          refine item_last (by walk_at "cx") (vs := wv') (by rw [← e3]; exact x2 _ _ hwa9) ?_
          rw [if_pos ⟨hw0, he⟩] at hstep
          refine ⟨_, _, x2, ⟨hxo.trans (Off.mono x2), Off.mono x2 _ _ hco, ?_⟩, by walk_at "cx"⟩
          rw [hstep, h, List.getLastD_concat]; exact hys.snoc
        · refine it_no (by simp [he]) ?_
          with_reducible refine it_f ?_
          rw [if_neg (by simp [he]), List.append_nil] at hstep
          refine ⟨_, _, x2, ⟨hxo.trans (Off.mono x2), Off.mono x2 _ _ hco, ?_⟩, by walk_at "cx"⟩
          rw [hstep]; exact hys
        · exact (put_none hD2).2
    · rintro ys g2 ⟨hx2, hc2, hys⟩ D g3 m s8 e3 hgD C9
      rw [hdl, List.take_length] at hys
      clear C8 C7
      have hkl := kids_len W W[i]
      have hk3 := kids_3 hl3 W[i]
      have hrl := inter_le 47 (B := 3) hk3
      have hll := rows_len W hn hl3 i
      refine ⟨D, ys, m, kids W W[i], rfl, hys, fun x h => Nat.le_trans (hk3 x h) (by decide), by lia, C9, hgD, fun t5 s9 C10 => ?_⟩
      clear C9
      (((with_reducible refine st_l (by walk_at "cx") ?e1 ?e2 ?e3 ?_); (case e1 => exact rfl); (case e2 => exact rfl); (case e3 => exact rfl); intro _ _))
      ((with_reducible refine qnx (by assumption) ?_); (try clear hN hO))
      ((with_reducible refine ex_gen ?_); intro Qn hN hO)
      (with_reducible refine wpAny_AugAssign_Name ?_)
      (refine ld_l (by walk_at "cx") rfl rfl rfl rfl ?_)
      with_reducible refine wpAny_BinOp ?_
      with_reducible refine IfExp_ ?_
      ((with_reducible refine wpAny_isTrue_Compare1 ?_ ?e1); (case e1 => with_unfolding_all rfl))
      refine sl_str ?e1 ?_
      case e1 => (intro _ _; rfl)
      (refine nm_l (by walk_at "cx") rfl rfl rfl rfl rfl ?_)
      (rw [evalPart_none]); with_reducible refine wpAny_pure ?_
      rw [evalPart_some]
      with_reducible refine wpAny_Constant_int ?_
      refine ⟨T (inter 47 (kids W W[i])), t5, none, some (_, _), rfl, rfl, rfl, ?_, _, slice_first _, by walk_at "cx", fun t6 s10 C11 => ?_⟩
      · rw [T_len, sizeLine_eq]; lia
      clear C10
      ((with_reducible refine' const_T ?e1 ?_); (case e1 => first | exact slash_T | exact dot_T | exact dots_T | exact empty_T | exact nl_T | exact crlf_T | exact dcrlf_T | exact a_T | exact da_T | exact ddd_T | exact ah_T | exact sdots_T))
      with_reducible refine PyProof.Rows.eq_str ?_
      with_reducible refine wpAny_truthy_bool ?_
      rw [T_beq]
      have heq : ((W.take (i + 1)).map (rowL W)).flatten = ((W.take i).map (rowL W)).flatten ++ rowL W W[i] := by
        rw [List.take_succ_eq_append_getElem hi', List.map_append, List.flatten_append]; simp
      by_cases hq : (inter 47 (kids W W[i])).take 1 = [46]
      · rw [if_pos (by simp [hq])]
        with_reducible refine wpAny_BinOp ?_
        ((with_reducible refine' const_T ?e1 ?_); (case e1 => first | exact slash_T | exact dot_T | exact dots_T | exact empty_T | exact nl_T | exact crlf_T | exact dcrlf_T | exact a_T | exact da_T | exact ddd_T | exact ah_T | exact sdots_T))
        dsimp only
        (refine nm_l (by walk_at "cx") rfl rfl rfl rfl rfl ?_)
        with_reducible refine SB.add ?_ ?_
        rotate_left
        · rw [T_len, T_len]; rw [sizeLine_eq]; simp at hll ⊢; lia
        intro t9 k9
        rw [T_app]
        ((with_reducible refine' const_T ?e1 ?_); (case e1 => first | exact slash_T | exact dot_T | exact dots_T | exact empty_T | exact nl_T | exact crlf_T | exact dcrlf_T | exact a_T | exact da_T | exact ddd_T | exact ah_T | exact sdots_T))
        dsimp only
        with_reducible refine SB.add ?_ ?_
        rotate_left
        · rw [T_len, T_len]; rw [sizeLine_eq]; simp at hll ⊢; lia
        intro t9 k9
        rw [T_app]
        with_reducible refine SB.iadd ?_ ?_
        rotate_left
        · rw [T_len, T_len]; rw [sizeLine_eq]; simp at hll ⊢; lia
        intro t8 k8
        rw [T_app]
        dsimp only
        (((with_reducible refine st_l (by walk_at "cx") ?e1 ?e2 ?e3 ?_); (case e1 => exact rfl); (case e2 => exact rfl); (case e3 => exact rfl); intro _ _))
        ((with_reducible refine qnx (by assumption) ?_); (try clear hN hO))
        with_reducible refine wpAny_execs_nil ?_
        dsimp only
        rename_i C12
        refine ⟨_, g3, ⟨hx2.trans e3, ⟨_, e3 _ _ hc2⟩, t8, [], rfl⟩, ?_⟩
        rw [heq, rowL, quo_yes hq]
        exact C12.nrm _ ⟨rfl, rfl, trivial⟩
      · rw [if_neg (by simp [hq])]
        (refine nm_l (by walk_at "cx") rfl rfl rfl rfl rfl ?_)
        ((with_reducible refine' const_T ?e1 ?_); (case e1 => first | exact slash_T | exact dot_T | exact dots_T | exact empty_T | exact nl_T | exact crlf_T | exact dcrlf_T | exact a_T | exact da_T | exact ddd_T | exact ah_T | exact sdots_T))
        dsimp only
        with_reducible refine SB.add ?_ ?_
        rotate_left
        · rw [T_len, T_len]; rw [sizeLine_eq]; simp at hll ⊢; lia
        intro t9 k9
        rw [T_app]
        with_reducible refine SB.iadd ?_ ?_
        rotate_left
        · rw [T_len, T_len]; rw [sizeLine_eq]; simp at hll ⊢; lia
        intro t8 k8
        rw [T_app]
        dsimp only
        (((with_reducible refine st_l (by walk_at "cx") ?e1 ?e2 ?e3 ?_); (case e1 => exact rfl); (case e2 => exact rfl); (case e3 => exact rfl); intro _ _))
        ((with_reducible refine qnx (by assumption) ?_); (try clear hN hO))
        with_reducible refine wpAny_execs_nil ?_
        dsimp only
        rename_i C12
        refine ⟨_, g3, ⟨hx2.trans e3, ⟨_, e3 _ _ hc2⟩, t8, [], rfl⟩, ?_⟩
        rw [heq, rowL, quo_no hq]
        exact C12.nrm _ ⟨rfl, rfl, trivial⟩
  · rintro l g s4 ⟨hx, _, t, l', rfl⟩ C5
    rw [hdl, List.take_length] at C5
    ((with_reducible refine qnx (by assumption) ?_); (try clear hN hO))
    ((with_reducible refine ex_gen ?_); intro Qn hN hO)
    with_reducible refine wpAny_Return_some ?_
    with_reducible refine wpAny_BinOp ?_
    (refine nm_l (by walk_at "cx") rfl rfl rfl rfl rfl ?_)
    ((with_reducible refine' const_T ?e1 ?_); (case e1 => first | exact slash_T | exact dot_T | exact dots_T | exact empty_T | exact nl_T | exact crlf_T | exact dcrlf_T | exact a_T | exact da_T | exact ddd_T | exact ah_T | exact sdots_T))
    have hll := rows_len W hn hl3 W.length
    rw [List.take_length] at hll
    with_reducible refine SB.add ?_ ?_
    rotate_left
    · rw [T_len, T_len]; rw [sizeLine_eq]; simp at hll ⊢; lia
    intro t9 k9
    rw [T_app]
    ((with_reducible refine qot (by assumption) ?e1 ?_); (case e1 => exact fun h => nomatch h); (try clear hN hO))
    dsimp only
    refine And.intro (Cx.to (by walk_at "cx")) ?_
    exact ⟨_, rfl⟩
end PartE5

section PartE6
theorem Cx.re {w s₀ L l g pr} {s : Shared} (C : Cx w s₀ L l g pr s) {h' : Heap} {W : List Addr} {pr' : List (Addr × Obj)}
    (k : ∀ b x, b ∉ W → s.heap.get? b = some x → h'.get? b = some x) (hW : ∀ b ∈ W, s₀.heap.get? b = none ∧ b ≠ L)
    (hp : ∀ p ∈ pr', h'.get? p.1 = some p.2 ∧ p.1 ≠ L ∧ hid p.2 = true ∧ s₀.heap.get? p.1 = none) (nd : (pr'.map (·.1)).Nodup) (t : Nat) :
    (∀ a o, a ∉ W → g a = some o → Mine.vis h' a = some o) ∧ Cx w s₀ L l (Mine.vis h') pr' { s with heap := h', toks := t } := by
  obtain ⟨m, hn, hm⟩ := C.loc
  refine ⟨fun a x hb q => ?_, C.kin, fun b x q => ?_, C.new, ⟨m, ?_, hm⟩, rfl, C.gens, C.drawn, C.os, hp, nd⟩
  · rw [← C.vis] at q
    have ⟨h1, h2⟩ := vis_get q
    exact vis_some (k a x hb h1) h2
  · have : b ∉ W := fun y => by rw [(hW b y).1] at q; cases q
    exact k b x this (C.keep b x q)
  · obtain ⟨ob, es, ep, ho, r⟩ := hn
    exact ⟨ob, es, ep, k _ _ (fun y => (hW _ y).2 rfl) ho, r⟩
section
variable {prog : Program} {w : World} {A : Around} {E : Value → Shared → Prop} {s : Shared} {env : Env}
theorem compLoop_pair {elt iter : Expr} {elts : List Expr} {x1} {tp : Pos} {ifs : List Expr} {scope : Scope} {pos : Pos} {it acc : Value} {env : Env} {R : Result → Shared → Prop} (I : Nat → Shared → Prop)
    (turn : ∀ n s, I n s → wpAny (model prog w) A (pyNext it) (fun r s₁ => match r with
      | none => R (.ok .next) s₁
      | some v => wpAny (model prog w) A (letOwnedTupleGo (.Tuple elts x1 tp) it v) (fun _ s₁' => wpAny (model prog w) A (assign (.Tuple elts x1 tp) env v) (fun _ s₂ =>
          wpAny (model prog w) A (forIn ifs true fun c r => if r = true then do let ok ← isTrue c env (eval c env); pure (ForInStep.yield ok) else pure (ForInStep.yield r)) (fun ok s₃ =>
            if ok = true then wpAny (model prog w) A (eval elt env) (fun x s₄ =>
              wpAny (model prog w) A (call (.builtin "list.append") [acc, x]) (fun _ s₅ => ∃ m, m < n ∧ I m s₅) (notedBy (model prog w) A env fun e s' => R (.error e) s') s₄) (notedBy (model prog w) A env fun e s' => R (.error e) s') s₃
            else ∃ m, m < n ∧ I m s₃) (notedBy (model prog w) A env fun e s' => R (.error e) s') s₂)
          (notedBy (model prog w) A env fun e s' => R (.error e) s') s₁') (notedBy (model prog w) A env fun e s' => R (.error e) s') s₁) (notedBy (model prog w) A env fun e s' => R (.error e) s') s)
    (n : Nat) (h : I n s) : codeAny (model prog w) A (.compLoop (.ListComp elt [⟨.Tuple elts x1 tp, iter, ifs, 0⟩] scope pos) 0 it acc env) R s := by
  refine codeAny_loop rfl I (fun n s hI => ?_) n h
  show wpAny _ A ((compTurn (.ListComp elt [⟨.Tuple elts x1 tp, iter, ifs, 0⟩] scope pos) 0 it acc env).onRaise (fun x => do noteFrame x env; theTreesLotGoes x)) _ _ s
  refine wpAny_noted ?_
  rw [compTurn_list]
  refine wpAny_bind (wpAny_standAt (wpAny_bind (wpAny_mono (turn n s hI) (fun r s₁ h₁ => ?_) fun _ _ h' => h')))
  cases r with
  | none => exact wpAny_pure h₁
  | some v =>
    refine wpAny_bind (wpAny_mono h₁ (fun _ s₁' h₁' => ?_) fun _ _ h' => h')
    refine wpAny_bind (wpAny_mono h₁' (fun _ s₂ h₂ => wpAny_bind (wpAny_mono h₂ (fun ok s₃ h₃ => ?_) fun _ _ h' => h')) fun _ _ h' => h')
    cases ok with
    | false => exact wpAny_pure ⟨rfl, h₃⟩
    | true =>
      exact wpAny_bind (wpAny_bind (wpAny_mono h₃ (fun x s₄ h₄ => wpAny_bind (wpAny_mono h₄ (fun _ s₅ h₅ => wpAny_pure (wpAny_pure ⟨rfl, h₅⟩)) fun _ _ h' => h')) fun _ _ h' => h'))
end
section
variable {w : World} {A : Around} {E : Value → Shared → Prop} {s s₀ : Shared} {L : Addr} {l : List (Str × Value)} {g : Vis} {pr : List (Addr × Obj)} {env : Env}
theorem Cx.neL (C : Cx w s₀ L l g pr s) {a : Addr} {o : Obj} (h : g a = some o) : a ≠ L := by
  rintro rfl
  obtain ⟨m, ⟨ob, es, ep, ho, hd, _⟩, _⟩ := C.loc
  rw [← C.vis, vis_dict ho hd] at h
  cases h
theorem Cx.nep (C : Cx w s₀ L l g pr s) {a : Addr} {o : Obj} (h : g a = some o) {p : Addr × Obj} (hp : p ∈ pr) : a ≠ p.1 := by
  rintro rfl
  have q := C.prot p hp
  rw [← C.vis, vis_hid q.1 q.2.2.1] at h
  cases h
noncomputable abbrev zO (TI TO : Addr) : Obj := { cls := .type "zip", dict := none, data := .fields #[.none, .bool false, .bool false, .ref TI, .ref TO], slots := #[] }
theorem off_bring {x y : Addr} {g g' : Vis} (h : ∀ a o, a ≠ x → a ≠ y → g a = some o → g' a = some o) : Ext (Off x y g) (Off x y g') := by
  intro a o e
  unfold Off at e ⊢
  split at e
  · cases e
  · rename_i hn
    rw [if_neg hn]
    exact h a o (fun q => hn (.inl q)) (fun q => hn (.inr q)) e
/-- the zip gives its next pair, and it is taken apart -/
theorem zip_turn {z TI TO i1 i2 l1 l2 : Addr} {i n1 n2 : Nat} {o1 o2 : Obj} {vs1 vs2 : List Value} {a b v1 v2 : Value} {elts : List Expr} {x1} {pos : Pos} {Q : Option Value → Shared → Prop} {E' : Value → Shared → Prop}
    (C : Cx w s₀ L l g ((z, zO TI TO) :: (i1, o1) :: (i2, o2) :: pr) s) (p1 : ltPos l1 i o1) (p2 : ltPos l2 i o2) (hTI : g TI = some (tupO [.ref i1, .ref i2])) (hTO : g TO = some (tupO [a, b]))
    (hl1 : g l1 = some (lstO vs1 n1)) (hl2 : g l2 = some (lstO vs2 n2)) (h1 : vs1[i]? = some v1) (h2 : vs2[i]? = some v2) (hIO : TI ≠ TO) (h1O : l1 ≠ TO) (h2O : l2 ≠ TO) (hO0 : s₀.heap.get? TO = none)
    (hQ : ∀ T s1, (∀ (Q' : Unit → Shared → Prop), (∀ o1' o2' g' s', ltPos l1 (i + 1) o1' → ltPos l2 (i + 1) o2' → (∀ a o, a ≠ TO → g a = some o → g' a = some o) → g' TO = some (tupO [v1, v2]) → g' T = some (tupO [v1, v2]) → T ≠ TO →
      Cx w s₀ L l g' ((z, zO TI TO) :: (i1, o1') :: (i2, o2') :: pr) s' → Q' () s') → wpAny (model P w) A (letOwnedTupleGo (.Tuple elts x1 pos) (.ref z) (.ref T)) Q' E' s1) → Q (some (.ref T)) s1) :
    wpAny (model P w) A (pyNext (.ref z)) Q E s := by
  have hz := (C.prot _ (.head _))
  have h1p := C.prot _ (.tail _ (.head _))
  have h2p := C.prot _ (.tail _ (.tail _ (.head _)))
  have nd := C.nd
  simp only [List.map_cons, List.nodup_cons, List.mem_cons, not_or] at nd
  have D : ZipApart z TI TO i1 i2 l1 l2 := {
    TIz := C.nep hTI (.head _)
    TOz := C.nep hTO (.head _)
    i1z := fun q => nd.1.1 q.symm
    i2z := fun q => nd.1.2.1 q.symm
    TITO := hIO
    TIi1 := C.nep hTI (.tail _ (.head _))
    TIi2 := C.nep hTI (.tail _ (.tail _ (.head _)))
    TOi1 := C.nep hTO (.tail _ (.head _))
    TOi2 := C.nep hTO (.tail _ (.tail _ (.head _)))
    i12 := nd.2.1.1
    l1z := C.nep hl1 (.head _)
    l1TO := h1O
    l1i1 := C.nep hl1 (.tail _ (.head _))
    l1i2 := C.nep hl1 (.tail _ (.tail _ (.head _)))
    l2z := C.nep hl2 (.head _)
    l2TO := h2O
    l2i1 := C.nep hl2 (.tail _ (.head _))
    l2i2 := C.nep hl2 (.tail _ (.tail _ (.head _))) }
  refine wpAny_pyNext_zip_item D hz.1 (C.at hTI) (C.at hTO) ⟨o1, h1p.1, p1.1, p1.2⟩ ⟨o2, h2p.1, p2.1, p2.2⟩ (C.isList hl1) (C.isList hl2) (x := v1) (y := v2) (by simpa using h1) (by simpa using h2) fun h' a1 a2 a3 a4 a5 a6 a7 => ?_
  refine hQ _ _ fun Q' hQ' => ?_
  refine wpAny_letOwnedTupleGo_zip a1 fun h2 hz2 hs2 => ?_
  obtain ⟨o1', b1, c1, d1⟩ := a3
  obtain ⟨o2', b2, c2, d2⟩ := a4
  have hzl : z < s.heap.objs.size := Heap.lt_size hz.1
  have hTl : TO < s.heap.objs.size := Heap.lt_size (C.at hTO)
  have up : ∀ c o, c ≠ z → h'.get? c = some o → h2.get? c = some o := fun c o hc e => hs2.extBut _ _ hc e
  have C2 := C.re (h' := h2) (W := [z, TO, i1, i2]) (pr' := (z, zO TI TO) :: (i1, o1') :: (i2, o2') :: pr)
    (fun b x hb e => up b x (fun q => hb (by simp [q])) (a7 b x (fun q => hb (by simp [q])) (fun q => hb (by simp [q])) (fun q => hb (by simp [q])) (fun q => hb (by simp [q])) e))
    (fun b hb => by
      simp only [List.mem_cons, List.not_mem_nil, or_false] at hb
      rcases hb with rfl | rfl | rfl | rfl
      · exact ⟨hz.2.2.2, hz.2.1⟩
      · exact ⟨hO0, C.neL hTO⟩
      · exact ⟨h1p.2.2.2, h1p.2.1⟩
      · exact ⟨h2p.2.2.2, h2p.2.1⟩)
    (fun p hp => by
      rcases List.mem_cons.mp hp with rfl | hp
      · exact ⟨hz2, hz.2⟩
      rcases List.mem_cons.mp hp with rfl | hp
      · exact ⟨up _ _ D.i1z b1, h1p.2.1, hid_cls c1 (by decide), h1p.2.2.2⟩
      rcases List.mem_cons.mp hp with rfl | hp
      · exact ⟨up _ _ D.i2z b2, h2p.2.1, hid_cls c2 (by decide), h2p.2.2.2⟩
      have hp' : p ∈ (z, zO TI TO) :: (i1, o1) :: (i2, o2) :: pr := .tail _ (.tail _ (.tail _ hp))
      have q := C.prot p hp'
      have hm : p.1 ∈ pr.map (·.1) := List.mem_map.mpr ⟨p, hp, rfl⟩
      have n1 : p.1 ≠ z := fun e => nd.1.2.2 (e ▸ hm)
      have n2 : p.1 ≠ i1 := fun e => nd.2.1.2 (e ▸ hm)
      have n3 : p.1 ≠ i2 := fun e => nd.2.2.1 (e ▸ hm)
      exact ⟨up _ _ n1 (a7 _ _ n1 (C.nep hTO hp').symm n2 n3 q.1), q.2⟩)
    (by simpa using C.nd) s.toks
  refine hQ' o1' o2' _ _ ⟨c1, d1⟩ ⟨c2, d2⟩ (fun c o hc e => C2.1 c o ?_ e) ?_ ?_ (Nat.ne_of_gt hTl) C2.2
  · simp only [List.mem_cons, List.not_mem_nil, or_false, not_or]
    exact ⟨C.nep e (.head _), hc, C.nep e (.tail _ (.head _)), C.nep e (.tail _ (.tail _ (.head _)))⟩
  · exact vis_some (up _ _ D.TOz a2) rfl
  · exact vis_some (up _ _ (Nat.ne_of_gt hzl) a5) rfl
theorem zip_stop {z TI TO i1 i2 l1 l2 : Addr} {i n1 n2 : Nat} {o1 o2 : Obj} {vs1 vs2 : List Value} {a b : Value} {Q : Option Value → Shared → Prop} (hh : A.handled = none)
    (C : Cx w s₀ L l g ((z, zO TI TO) :: (i1, o1) :: (i2, o2) :: pr) s) (p1 : ltPos l1 i o1) (p2 : ltPos l2 i o2) (hTI : g TI = some (tupO [.ref i1, .ref i2])) (hTO : g TO = some (tupO [a, b]))
    (hl1 : g l1 = some (lstO vs1 n1)) (hl2 : g l2 = some (lstO vs2 n2)) (h1 : vs1.length ≤ i) (hIO : TI ≠ TO) (h1O : l1 ≠ TO) (h2O : l2 ≠ TO) (hO0 : s₀.heap.get? TO = none)
    (hQ : ∀ g' s', (∀ a o, a ≠ TO → g a = some o → g' a = some o) → Cx w s₀ L l g' pr s' → Q none s') :
    wpAny (model P w) A (pyNext (.ref z)) Q E s := by
  have hz := (C.prot _ (.head _))
  have h1p := C.prot _ (.tail _ (.head _))
  have h2p := C.prot _ (.tail _ (.tail _ (.head _)))
  have nd := C.nd
  simp only [List.map_cons, List.nodup_cons, List.mem_cons, not_or] at nd
  have D : ZipApart z TI TO i1 i2 l1 l2 := {
    TIz := C.nep hTI (.head _)
    TOz := C.nep hTO (.head _)
    i1z := fun q => nd.1.1 q.symm
    i2z := fun q => nd.1.2.1 q.symm
    TITO := hIO
    TIi1 := C.nep hTI (.tail _ (.head _))
    TIi2 := C.nep hTI (.tail _ (.tail _ (.head _)))
    TOi1 := C.nep hTO (.tail _ (.head _))
    TOi2 := C.nep hTO (.tail _ (.tail _ (.head _)))
    i12 := nd.2.1.1
    l1z := C.nep hl1 (.head _)
    l1TO := h1O
    l1i1 := C.nep hl1 (.tail _ (.head _))
    l1i2 := C.nep hl1 (.tail _ (.tail _ (.head _)))
    l2z := C.nep hl2 (.head _)
    l2TO := h2O
    l2i1 := C.nep hl2 (.tail _ (.head _))
    l2i2 := C.nep hl2 (.tail _ (.tail _ (.head _))) }
  refine wpAny_pyNext_zip_end hh D hz.1 (C.at hTI) (C.at hTO) ⟨o1, h1p.1, p1.1, p1.2⟩ ⟨o2, h2p.1, p2.1, p2.2⟩ (C.isList hl1) (C.isList hl2) (.inl (by simpa using h1)) fun h' a7 => ?_
  have C2 := C.re (h' := h') (W := [z, TO, i1, i2]) (pr' := pr)
    (fun b x hb e => a7 b x (fun q => hb (by simp [q])) (fun q => hb (by simp [q])) (fun q => hb (by simp [q])) (fun q => hb (by simp [q])) e)
    (fun b hb => by
      simp only [List.mem_cons, List.not_mem_nil, or_false] at hb
      rcases hb with rfl | rfl | rfl | rfl
      · exact ⟨hz.2.2.2, hz.2.1⟩
      · exact ⟨hO0, C.neL hTO⟩
      · exact ⟨h1p.2.2.2, h1p.2.1⟩
      · exact ⟨h2p.2.2.2, h2p.2.1⟩)
    (fun p hp => by
      have hp' : p ∈ (z, zO TI TO) :: (i1, o1) :: (i2, o2) :: pr := .tail _ (.tail _ (.tail _ hp))
      have q := C.prot p hp'
      have hm : p.1 ∈ pr.map (·.1) := List.mem_map.mpr ⟨p, hp, rfl⟩
      have n1 : p.1 ≠ z := fun e => nd.1.2.2 (e ▸ hm)
      have n2 : p.1 ≠ i1 := fun e => nd.2.1.2 (e ▸ hm)
      have n3 : p.1 ≠ i2 := fun e => nd.2.2.1 (e ▸ hm)
      exact ⟨a7 _ _ n1 (C.nep hTO hp').symm n2 n3 q.1, q.2⟩)
    (by have := C.nd; simp only [List.map_cons, List.nodup_cons] at this; exact this.2.2.2) s.toks
  refine hQ _ _ (fun c o hc e => C2.1 c o ?_ e) C2.2
  simp only [List.mem_cons, List.not_mem_nil, or_false, not_or]
  exact ⟨C.nep e (.head _), hc, C.nep e (.tail _ (.head _)), C.nep e (.tail _ (.tail _ (.head _)))⟩
end
end PartE6

section PartE7
section
variable {w : World} {A : Around} {E : Value → Shared → Prop} {s s₀ : Shared} {L : Addr} {l : List (Str × Value)} {g : Vis} {pr : List (Addr × Obj)} {env : Env}
theorem zip_self {TI TO z : Addr} {Q : Value → Shared → Prop} (C : Cx w s₀ L l g ((z, zO TI TO) :: pr) s) (h : Q (.ref z) s) : wpAny (model P w) A (pyIter (.ref z)) Q E s :=
  wpAny_pyIter_zip (C.prot _ (.head _)).1 h
theorem zip_call {l1 l2 : Addr} {n1 n2 : Nat} {vs1 vs2 : List Value} {Q : Value → Shared → Prop} (C : Cx w s₀ L l g pr s) (hl1 : g l1 = some (lstO vs1 n1)) (hl2 : g l2 = some (lstO vs2 n2))
    (h : ∀ z TI TO i1 i2 o1 o2 g' s', ltPos l1 0 o1 → ltPos l2 0 o2 → Ext g g' → g TO = none → s₀.heap.get? TO = none → TI ≠ TO → g' TI = some (tupO [.ref i1, .ref i2]) → g' TO = some (tupO [.none, .none]) →
      Cx w s₀ L l g' ((z, zO TI TO) :: (i1, o1) :: (i2, o2) :: pr) s' → Q (.ref z) s') : wpAny (model P w) A (call (.type "zip") [.ref l1, .ref l2]) Q E s := by
  refine call_zip_2 (C.isList hl1) (C.isList hl2) fun h' a1 a2 a3 a4 a5 a6 a7 => ?_
  obtain ⟨o1, b1, c1, d1⟩ := a4
  obtain ⟨o2, b2, c2, d2⟩ := a5
  have new : ∀ k, s.heap.get? (s.heap.objs.size + k) = none := fun k => Heap.get?_none_of_le (Nat.le_add_right _ k)
  have new0 : ∀ k, s₀.heap.get? (s.heap.objs.size + k) = none := fun k => by
    cases q : s₀.heap.get? (s.heap.objs.size + k) with
    | none => rfl
    | some o => have := C.keep _ _ q; rw [new k] at this; cases this
  have neL : ∀ k, s.heap.objs.size + k ≠ L := fun k e => by
    obtain ⟨m, hn, _⟩ := C.loc
    exact Nat.lt_irrefl _ (Nat.lt_of_lt_of_le hn.lt (e ▸ Nat.le_add_right s.heap.objs.size k))
  have nep : ∀ k, ∀ p ∈ pr, s.heap.objs.size + k ≠ p.1 := fun k p hp e => by
    have := (C.prot p hp).1
    rw [← e, new k] at this; cases this
  have n0 : s.heap.objs.size = s.heap.objs.size + 0 := rfl
  rw [n0] at b1
  have C2 := C.re (h' := h') (W := []) (pr' := (s.heap.objs.size + 4, zO (s.heap.objs.size + 2) (s.heap.objs.size + 3)) :: (s.heap.objs.size + 0, o1) :: (s.heap.objs.size + 1, o2) :: pr)
    (fun b x _ e => a7 b x e) (fun b hb => by cases hb)
    (fun p hp => by
      rcases List.mem_cons.mp hp with rfl | hp
      · exact ⟨a1, neL 4, rfl, new0 4⟩
      rcases List.mem_cons.mp hp with rfl | hp
      · exact ⟨b1, neL 0, hid_cls c1 (by decide), new0 0⟩
      rcases List.mem_cons.mp hp with rfl | hp
      · exact ⟨b2, neL 1, hid_cls c2 (by decide), new0 1⟩
      exact ⟨a7 _ _ (C.prot p hp).1, (C.prot p hp).2⟩)
    (by
      have nm : ∀ k, s.heap.objs.size + k ∉ pr.map (·.1) := fun k hm => by
        obtain ⟨p, hp, e⟩ := List.mem_map.mp hm
        exact nep k p hp e.symm
      simp only [List.map_cons, List.nodup_cons, List.mem_cons, not_or]
      exact ⟨⟨Nat.ne_of_gt (Nat.add_lt_add_left (by decide) _), Nat.ne_of_gt (Nat.add_lt_add_left (by decide) _), nm 4⟩, ⟨Nat.ne_of_lt (Nat.add_lt_add_left (by decide) _), nm 0⟩, nm 1, C.nd⟩) s.toks
  refine h _ (s.heap.objs.size + 2) (s.heap.objs.size + 3) _ _ o1 o2 _ _ ⟨c1, d1⟩ ⟨c2, d2⟩ (fun a o e => C2.1 a o (by simp) e) ?_ (new0 3) (Nat.ne_of_lt (Nat.add_lt_add_left (by decide) _)) (vis_some a2 rfl) (vis_some a3 rfl) C2.2
  rw [← C.vis]; exact vis_none (new 3)
/-- the loop of a comprehension over a zip of two lists -/
theorem comp_loopZ {z TI TO i1 i2 l1 l2 D C : Addr} {n1 n2 : Nat} {o1 o2 : Obj} {vs1 vs2 : List Value} {oL : Obj} {elt iter : Expr} {ifs : List Expr} {x₁ x₂ : Str} {px₁ px₂ tp pos : Pos} {tk} {scope : Scope} {cenv : Env} {R : Result → Shared → Prop} {m0 : Nat} {a0 b0 : Value}
    (J : Nat → List Value → Vis → Prop) (hh : A.handled = none) (hlen12 : vs2.length = vs1.length)
    (hJ : ∀ i ys g g', Ext g g' → J i ys g → J i ys g') (hlen : ∀ i ys g, J i ys g → ys.length ≤ 10000) (hD0 : s₀.heap.get? D = none) (hO0 : s₀.heap.get? TO = none)
    (hIO : TI ≠ TO) (hDO : D ≠ TO) (hID : TI ≠ D) (h1O : l1 ≠ TO) (h2O : l2 ≠ TO) (h1D : l1 ≠ D) (h2D : l2 ≠ D)
    (hL : cenv.locals = C) (hk : cenv.scope.kind = .function) (k1 : cenv.kindOf x₁ = some .local) (k2 : cenv.kindOf x₂ = some .local)
    (he : assignEach [.Name x₁ px₁, .Name x₂ px₂] cenv = [(false, assign (.Name x₁ px₁) cenv), (false, assign (.Name x₂ px₂) cenv)])
    (turn : ∀ i v1 v2 ys g pr' s, vs1[i]? = some v1 → vs2[i]? = some v2 → J i ys (Off D TO g) → Cx w s₀ C [(x₂, v2), (x₁, v1)] g pr' s →
      wpAny (model P w) A (forIn ifs true fun c r => if r = true then do let ok ← isTrue c cenv (eval c cenv); pure (ForInStep.yield ok) else pure (ForInStep.yield r)) (fun ok s₃ =>
        if ok = true then wpAny (model P w) A (eval elt cenv) (fun x s₄ => ∃ l' g', Ext g g' ∧ J (i + 1) (ys ++ [x]) (Off D TO g') ∧ Cx w s₀ C l' g' pr' s₄) (fun _ _ => False) s₃
        else ∃ l' g', Ext g g' ∧ J (i + 1) ys (Off D TO g') ∧ Cx w s₀ C l' g' pr' s₃) (fun _ _ => False) s)
    (fin : ∀ ys m g s', J vs1.length ys (Off D TO g) → g D = some (lstO ys m) → Cx w s₀ C [] g ((L, oL) :: pr) s' → R (.ok .next) s')
    (j0 : J 0 [] (Off D TO g)) (g0 : g D = some (lstO [] m0)) (gI : g TI = some (tupO [.ref i1, .ref i2])) (gO : g TO = some (tupO [a0, b0])) (g1 : g l1 = some (lstO vs1 n1)) (g2 : g l2 = some (lstO vs2 n2)) (p1 : ltPos l1 0 o1) (p2 : ltPos l2 0 o2)
    (Cc : Cx w s₀ C [] g ((z, zO TI TO) :: (i1, o1) :: (i2, o2) :: (L, oL) :: pr) s) :
    codeAny (model P w) A (.compLoop (.ListComp elt [⟨.Tuple [.Name x₁ px₁, .Name x₂ px₂] tk tp, iter, ifs, 0⟩] scope pos) 0 (.ref z) (.ref D) cenv) R s := by
  refine compLoop_pair (fun k s => ∃ i o1 o2 ys m g a b, k = vs1.length - i ∧ i ≤ vs1.length ∧ ltPos l1 i o1 ∧ ltPos l2 i o2 ∧ J i ys (Off D TO g) ∧ g D = some (lstO ys m) ∧ g TI = some (tupO [.ref i1, .ref i2]) ∧ g TO = some (tupO [a, b]) ∧
      g l1 = some (lstO vs1 n1) ∧ g l2 = some (lstO vs2 n2) ∧ Cx w s₀ C [] g ((z, zO TI TO) :: (i1, o1) :: (i2, o2) :: (L, oL) :: pr) s) ?_ vs1.length
    ⟨0, o1, o2, [], m0, g, a0, b0, rfl, Nat.zero_le _, p1, p2, j0, g0, gI, gO, g1, g2, Cc⟩
  rintro k s ⟨i, o1, o2, ys, m, g, a, b, rfl, hi, p1, p2, hj, gD, gI, gO, g1, g2, C1⟩
  by_cases h : i < vs1.length
  · have h' : i < vs2.length := by lia
    refine zip_turn (E' := notedBy (model P w) A cenv fun e s' => R (Except.error e) s') (elts := [.Name x₁ px₁, .Name x₂ px₂]) (x1 := tk) (pos := tp) (v1 := vs1[i]) (v2 := vs2[i]) C1 p1 p2 gI gO g1 g2 (by simp [h]) (by simp [h']) hIO h1O h2O hO0 fun T s1 hlet => ?_
    dsimp only
    refine hlet _ fun o1' o2' g' s' q1 q2 hkeep hTO' hT hTne C2 => ?_
    have e2 : Ext (Off D TO g) (Off D TO g') := off_bring fun a o _ hb e => hkeep a o hb e
    refine unp2 C2 hT hh he fun g3 s3 e3 C3 => ?_
    refine wpAny_assign_Name (st_l C3 hL k1 hk fun s4 C4 => ?_)
    refine wpAny_assign_Name (st_l C4 hL k2 hk fun s5 C5 => ?_)
    have gD3 := e3 _ _ (hkeep _ _ hDO gD)
    have gI3 := e3 _ _ (hkeep _ _ hIO gI)
    have gO3 := e3 _ _ hTO'
    have g13 := e3 _ _ (hkeep _ _ h1O g1)
    have g23 := e3 _ _ (hkeep _ _ h2O g2)
    refine wpAny_mono (turn i _ _ ys g3 _ s5 (by simp [h]) (by simp [h']) (hJ _ _ _ _ (e2.trans (Off.mono e3)) hj) C5) (fun ok s₃ h₃ => ?_) fun _ _ q => q.elim
    cases ok with
    | false =>
      obtain ⟨l', g4, e4, j4, C6⟩ := h₃
      exact ⟨vs1.length - (i + 1), by lia, i + 1, o1', o2', ys, m, g4, _, _, rfl, h, q1, q2, j4, e4 _ _ gD3, e4 _ _ gI3, e4 _ _ gO3, e4 _ _ g13, e4 _ _ g23, C6.nrm [] trivial⟩
    | true =>
      refine wpAny_mono h₃ (fun x s₄ h₄ => ?_) fun _ _ q => q.elim
      obtain ⟨l', g4, e4, j4, C6⟩ := h₄
      refine list_append C6 (e4 _ _ gD3) hD0 (by have := hlen _ _ _ hj; lia) fun s' C7 => ?_
      refine ⟨vs1.length - (i + 1), by lia, i + 1, o1', o2', _, _, _, vs1[i], vs2[i], rfl, h, q1, q2, ?_, put_self _ _ _, ?_, ?_, ?_, ?_, C7.nrm [] trivial⟩
      · rw [Off.put1]; exact j4
      · rw [put_ne _ _ hID]; exact e4 _ _ gI3
      · rw [put_ne _ _ (Ne.symm hDO)]; exact e4 _ _ gO3
      · rw [put_ne _ _ h1D]; exact e4 _ _ g13
      · rw [put_ne _ _ h2D]; exact e4 _ _ g23
  · have : i = vs1.length := by lia
    subst this
    refine zip_stop hh C1 p1 p2 gI gO g1 g2 (Nat.le_refl _) hIO h1O h2O hO0 fun g' s' hkeep C2 => ?_
    exact fin ys m g' s' (hJ _ _ _ _ (off_bring fun a o _ hb e => hkeep a o hb e) hj) (hkeep _ _ hDO gD) C2
end
end PartE7

section PartE8
section
variable {w : World} {A : Around} {E : Value → Shared → Prop} {s : Shared} {env : Env}
/-- what a comprehension over a zip is told ahead of its loop -/
inductive ZipAt (w : World) (A : Around) (env : Env) (scope : Scope) (cl : List (Str × Addr)) (elt : Expr) (x₁ x₂ : Str) (ifs : List Expr) (z : Addr) (Fin : Shared → Addr → List (Str × Value) → List (Addr × Obj) → Addr → List Value → Vis → Prop) (s₂ : Shared) : Prop
  | intro {s₀ : Shared} {L : Addr} {l : List (Str × Value)} {g : Vis} {pr : List (Addr × Obj)} (TI TO i1 i2 l1 l2 : Addr) (n1 n2 : Nat) (o1 o2 : Obj) (vs1 vs2 : List Value) (a0 b0 : Value) (J : Nat → List Value → Vis → Prop)
    (C0 : Cx w s₀ L l g ((z, zO TI TO) :: (i1, o1) :: (i2, o2) :: pr) s₂)
    (hL : env.locals = L)
    (p1 : ltPos l1 0 o1)
    (p2 : ltPos l2 0 o2)
    (gI : g TI = some (tupO [.ref i1, .ref i2]))
    (gO : g TO = some (tupO [a0, b0]))
    (g1 : g l1 = some (lstO vs1 n1))
    (g2 : g l2 = some (lstO vs2 n2))
    (hO0 : s₀.heap.get? TO = none)
    (hIO : TI ≠ TO)
    (h1O : l1 ≠ TO)
    (h2O : l2 ≠ TO)
    (hlen12 : vs2.length = vs1.length)
    (j0 : J 0 [] (Off TO TO g))
    (hJ : ∀ i ys g g', Ext g g' → J i ys g → J i ys g')
    (hlen : ∀ i ys g, J i ys g → ys.length ≤ 10000)
    (turn : ∀ C D i v1 v2 ys g pr' s, vs1[i]? = some v1 → vs2[i]? = some v2 → J i ys (Off D TO g) → Cx w s₀ C [(x₂, v2), (x₁, v1)] g pr' s →
      wpAny (model P w) A (forIn ifs true fun c r => if r = true then do let ok ← isTrue c (compEnvC scope cl C env) (eval c (compEnvC scope cl C env)); pure (ForInStep.yield ok) else pure (ForInStep.yield r)) (fun ok s₃ =>
        if ok = true then wpAny (model P w) A (eval elt (compEnvC scope cl C env)) (fun x s₄ => ∃ l' g', Ext g g' ∧ J (i + 1) (ys ++ [x]) (Off D TO g') ∧ Cx w s₀ C l' g' pr' s₄) (fun _ _ => False) s₃
        else ∃ l' g', Ext g g' ∧ J (i + 1) ys (Off D TO g') ∧ Cx w s₀ C l' g' pr' s₃) (fun _ _ => False) s)
    (fin : ∀ ys D g, J vs1.length ys (Off D TO g) → Fin s₀ L l pr D ys g) :
    ZipAt w A env scope cl elt x₁ x₂ ifs z Fin s₂
theorem comp_goZ {scope : Scope} {cl : List (Str × Addr)} {elt iter : Expr} {ifs : List Expr} {x₁ x₂ : Str} {px₁ px₂ tp pos : Pos} {tk} {z : Addr} {Fin : Shared → Addr → List (Str × Value) → List (Addr × Obj) → Addr → List Value → Vis → Prop} {R : Addr → Addr → Result → Shared → Prop}
    (h : ZipAt w A env scope cl elt x₁ x₂ ifs z Fin s) (hh : A.handled = none) (hcell : ∀ y ∈ scope.names, y.2 ≠ .cell) (hkind : scope.kind = .function)
    (hk : ∀ C, (compEnvC scope cl C env).scope.kind = .function) (k1 : ∀ C, (compEnvC scope cl C env).kindOf x₁ = some .local) (k2 : ∀ C, (compEnvC scope cl C env).kindOf x₂ = some .local)
    (he : ∀ cenv : Env, assignEach [.Name x₁ px₁, .Name x₂ px₂] cenv = [(false, assign (.Name x₁ px₁) cenv), (false, assign (.Name x₂ px₂) cenv)])
    (hR : ∀ s₀ L l pr C D ys m g oC s', env.locals = L → Fin s₀ L l pr D ys g → g D = some (lstO ys m) → Cx w s₀ L l g ((C, oC) :: pr) s' → (∃ mC, s'.heap.Ns C mC) → R D C (.ok .next) s') :
    wpAny (model P w) A (newList []) (fun acc s₃ => wpAny (model P w) A (newFunctionEnv scope env.globals cl [] env.qual none .none (some env)) (fun cenv s₄ =>
      ∃ D, acc = .ref D ∧ codeAny (model P w) A (.compStart (.ListComp elt [⟨.Tuple [.Name x₁ px₁, .Name x₂ px₂] tk tp, iter, ifs, 0⟩] scope pos) 0 (.ref z) acc { cenv with scope := relabel scope env }) (R D cenv.locals) s₄) E s₃) E s := by
  obtain @⟨s₀, L, l, g, pr, TI, TO, i1, i2, l1, l2, n1, n2, o1, o2, vs1, vs2, a0, b0, J, C0, hL, p1, p2, gI, gO, g1, g2, hO0, hIO, h1O, h2O, hlen12, j0, hJ, hlen, turn, fin⟩ := h
  refine wpAny_newList ?_ (by simp [sizeLine_eq])
  refine mk_obj (o := lstO [] 0) (Q := fun acc s₃ => wpAny (model P w) A (newFunctionEnv scope env.globals cl [] env.qual none .none (some env)) (fun cenv s₄ =>
      ∃ D, acc = .ref D ∧ codeAny (model P w) A (.compStart (.ListComp elt [⟨.Tuple [.Name x₁ px₁, .Name x₂ px₂] tk tp, iter, ifs, 0⟩] scope pos) 0 (.ref z) acc { cenv with scope := relabel scope env }) (R D cenv.locals) s₄) E s₃) C0 rfl rfl fun D s1 hD hD0 C1 => ?_
  refine wpAny_newFunctionEnv hcell (by intro y hy; simp at hy) (fun h₁ hns₁ hsb₁ => ?_) hkind
  refine ⟨D, rfl, ?_⟩
  have hns2 := hns₁
  obtain ⟨oC, es, ep, hoC, hdC, rC⟩ := hns2
  have C2 := C1.newB hsb₁ hoC hdC (s1.toks + ([] : List (Str × Value)).length)
  have hns3 : h₁.Ns s1.heap.objs.size fun x => ([] : List (Str × Value)).reverse.lookup x := ⟨oC, es, ep, hoC, hdC, rC⟩
  obtain ⟨oL, C3, mL, hnL, hmL⟩ := C2.swap (lB := []) ⟨_, hns3, fun x v e => by cases e⟩
  have C4 := C3.perm (pr' := (z, zO TI TO) :: (i1, o1) :: (i2, o2) :: (L, oL) :: pr) ((List.Perm.swap ..).trans (.cons _ ((List.Perm.swap ..).trans (.cons _ (List.Perm.swap ..)))))
  have hoL := (C4.prot (L, oL) (.tail _ (.tail _ (.tail _ (.head _))))).1
  have x1 := (Ext.refl g).put (o := lstO [] 0) hD
  have hx : Ext (Off TO TO g) (Off D TO (put g D (lstO [] 0))) := by
    intro a o e
    unfold Off at e ⊢
    split at e
    · cases e
    · rename_i hn
      rw [if_neg (fun q => q.elim (fun q => Ext.ne e hD q) fun q => hn (.inl q))]
      exact x1 _ _ e
  have loop : codeAny (model P w) A (.compLoop (.ListComp elt [⟨.Tuple [.Name x₁ px₁, .Name x₂ px₂] tk tp, iter, ifs, 0⟩] scope pos) 0 (.ref z) (.ref D) (compEnvC scope cl s1.heap.objs.size env)) (R D s1.heap.objs.size) { s1 with heap := h₁, toks := s1.toks + ([] : List (Str × Value)).length } := by
    refine comp_loopZ (oL := oL) (o1 := o1) (o2 := o2) (a0 := a0) (b0 := b0) (i1 := i1) (i2 := i2) J hh hlen12 hJ hlen hD0 hO0 hIO (Ext.ne gO hD).symm (Ext.ne gI hD) h1O h2O (Ext.ne g1 hD) (Ext.ne g2 hD) rfl (hk _) (k1 _) (k2 _) (he _) (turn _ D) (fun ys m g s' hj hg C' => ?_)
      (hJ _ _ _ _ hx j0) (put_self _ _ _) (x1 _ _ gI) (x1 _ _ gO) (x1 _ _ g1) (x1 _ _ g2) p1 p2 C4
    obtain ⟨oB, Cb⟩ := C'.back hoL hnL hmL
    obtain ⟨mC, hnC, _⟩ := C'.loc
    exact hR s₀ L l pr _ D ys m g oB s' hL (fin ys _ _ hj) hg Cb ⟨mC, hnC⟩
  exact codeAny_compStart_list loop (zip_self C4 loop)
/-- a comprehension over a zip, stored at once -/
theorem comp_sZ {scope : Scope} {cl : List (Str × Addr)} {elt iter : Expr} {ifs : List Expr} {x₁ x₂ : Str} {px₁ px₂ tp pos : Pos} {tk} {y : Str} {py spos : Pos} {Q : Flow → Shared → Prop}
    (hsw : swapsWith (.ListComp elt [⟨.Tuple [.Name x₁ px₁, .Name x₂ px₂] tk tp, iter, ifs, 0⟩] scope pos) (some (.Name y py)) spos.line env = pure true) (hh : A.handled = none)
    (hclos : closureFor scope env = pure cl) (hcell : ∀ y ∈ scope.names, y.2 ≠ .cell) (hkind : scope.kind = .function) (hnames : ∀ y ∈ scope.names, y.2 = .local → scope.names.lookup y.1 = some .local)
    (hkC : ∀ C, (compEnvC scope cl C env).scope.kind = .function) (k1 : ∀ C, (compEnvC scope cl C env).kindOf x₁ = some .local) (k2 : ∀ C, (compEnvC scope cl C env).kindOf x₂ = some .local)
    (he : ∀ cenv : Env, assignEach [.Name x₁ px₁, .Name x₂ px₂] cenv = [(false, assign (.Name x₁ px₁) cenv), (false, assign (.Name x₂ px₂) cenv)])
    (hs : ∀ x, foldedSetIterable iter env x = pure x) (hy : env.kindOf y = some .local) (hk : env.scope.kind = .function)
    (h : wpAny (model P w) A (eval iter env) (fun xv s₁ => wpAny (model P w) A (pyIter xv) (fun iv s₂ => ∃ z, iv = .ref z ∧ ZipAt w A env scope cl elt x₁ x₂ ifs z
      (fun s₀ L l pr D ys g => ∀ m g' s', Ext g g' → g' D = some (lstO ys m) → Cx w s₀ L ((y, .ref D) :: l) g' pr s' → Q .next s') s₂) E s₁) E s) :
    wpAny (model P w) A (exec (.Assign [.Name y py] (.ListComp elt [⟨.Tuple [.Name x₁ px₁, .Name x₂ px₂] tk tp, iter, ifs, 0⟩] scope pos) spos) env) Q E s := by
  rw [exec_Assign_Name_used _ _ _ _ hsw]
  refine wpAny_bind (wpAny_standAt (wpAny_bind ?_))
  show wpAny _ A (do let _ ← comprehension (.ListComp elt [⟨.Tuple [.Name x₁ px₁, .Name x₂ px₂] tk tp, iter, ifs, 0⟩] scope pos) scope env _ (newList []) false (eval iter env) (some (assign (.Name y py) env))) _ _ s
  refine wpAny_bind (wpAny_mono (wpAny_comprehension_free (use := some (assign (.Name y py) env)) (Q := fun _ s' => Q .next s') rfl hs hclos hkind hnames
    (wpAny_mono h (fun xv s₁ h₁ => wpAny_mono h₁ (fun iv s₂ h₂ => ?_) fun _ _ e => e) fun _ _ e => e)) (fun _ s' hq => wpAny_pure (wpAny_pure hq)) fun _ _ e => e)
  obtain ⟨it, rfl, hc⟩ := h₂
  refine wpAny_mono (comp_goZ (iter := iter) (tk := tk) (tp := tp) (R := fun D C => compPost (model P w) A E (some (assign (.Name y py) env)) (fun _ s' => Q .next s') (.ref D) C) (E := E) (pos := pos) hc hh hcell hkind hkC k1 k2 he ?_) (fun acc s₃ h₃ => wpAny_mono h₃ (fun cenv s₄ h₄ => ?_) fun _ _ e => e) fun _ _ e => e
  · rintro s₀ L l pr C D ys m g oC s' hL hfin hg Cb ⟨mC, hnC⟩
    show wpAny _ A (assign (.Name y py) env (.ref D)) _ _ _
    refine wpAny_assign_Name (st_l Cb hL hy hk fun s'' Cs => ?_)
    have q := (Cs.prot (C, oC) (.head _)).1
    have q0 := (Cb.prot (C, oC) (.head _)).1
    obtain ⟨ob, es, ep, ho, r⟩ := hnC
    rw [q0] at ho
    obtain rfl := Option.some.inj ho
    refine ⟨mC, ⟨_, es, ep, q, r⟩, fun h' hs' => ?_⟩
    have z := Cs.dropP (fun b x hb e => (hs'.2 b hb).trans e) s''.toks
    exact hfin m _ _ z.1 (z.1 _ _ hg) z.2
  · obtain ⟨D, rfl, hcode⟩ := h₄
    exact hcode
end
end PartE8

section PartE9
theorem dir_all {w A s k} {ns : List (List Nat)} {t : Tok} (kin : (K2 w.params).In s.heap) (hA : Ok (k+2) A) (hn : GL ns) (hl : ns.length ≤ 20) :
    Spec w A 186 [.str (T (pth ns)) t] (fun v _ _ => ∃ t', v = .str (T (pth ns.dropLast)) t') s := by
  rcases List.eq_nil_or_concat ns with h | ⟨r, z, h⟩
  · subst h
    exact dirname_c (p := []) (n := []) kin hA (by simp) (by decide) (by simp)
  · rw [List.concat_eq_append] at h
    subst h
    rw [List.dropLast_concat]
    exact dir_p kin hA hn (by simp at hl; lia)
section
variable {w : World} {A : Around} {E : Value → Shared → Prop} {s : Shared} {env : Env}
theorem ct2 {pos : Pos} {id : String} {e e' : Expr} {Q : Value → Shared → Prop} (hs : starEach [e, e'] env = [(false, eval e env), (false, eval e' env)])
    (h : wpAny (model P w) A (eval e env) (fun v s₁ => wpAny (model P w) A (eval e' env) (fun v' s₂ => wpAny (model P w) A (call (.type id) [v, v'] []) Q E s₂) E s₁) E s) :
    wpAny (model P w) A (callWith pos (.type id) [] (backTo pos (starEach [e, e'] env)) []) Q E s := by
  rw [hs]
  refine PySem.callWith_type rfl (Calls.evalArgs_plain ?_)
  exact Calls.spliced_cons (wpAny_mono h (fun v s₁ q => Calls.spliced_cons (wpAny_mono q (fun v s₂ q => Calls.spliced_nil q) fun _ _ q => q)) fun _ _ q => q)
end
theorem mrows_len {Ps : List (List (List Nat))} (hn : Ps.length ≤ 13) (hg : ∀ x ∈ Ps, Good x) (i : Nat) : ((Ps.take i).map fun p => inter 47 (kids Ps p) ++ [10]).flatten.length ≤ 900 := by
  have h1 := flat_le (fun p => inter 47 (kids Ps p) ++ [10]) (B := 54) (Ps.take i) fun x _ => by
    have h1 := kids_len Ps x
    have h2 := inter_le 47 (B := 3) (kids_3 (fun x hx y hy => ((hg x hx).gl y hy).len) x)
    simp only [List.length_append, List.length_cons, List.length_nil]
    lia
  have h2 : (Ps.take i).length ≤ 13 := by rw [List.length_take]; lia
  have h3 : (Ps.take i).length * 54 ≤ 13 * 54 := Nat.mul_le_mul_right _ h2
  lia
theorem kids_mem {W : List (List (List Nat))} {ns : List (List Nat)} {x : List Nat} (h : x ∈ kids W ns) : ∃ y ∈ W, x ∈ y := by
  unfold kids at h
  obtain ⟨y, hy, rfl⟩ := List.mem_map.mp h
  have hy' := List.mem_filter.mp hy
  refine ⟨y, hy'.1, ?_⟩
  rcases List.eq_nil_or_concat y with e | ⟨w', z, e⟩
  · rw [e] at hy'; simp at hy'
  · rw [List.concat_eq_append] at e
    rw [e, List.getLastD_concat]; simp
theorem inter_mem (c : Nat) : ∀ (xs : List (List Nat)) (a : Nat), a ∈ inter c xs → a = c ∨ ∃ x ∈ xs, a ∈ x
  | [], a, h => by cases h
  | [x], a, h => .inr ⟨x, .head _, h⟩
  | x :: y :: r, a, h => by
    have h' : a ∈ x ++ c :: inter c (y :: r) := h
    rcases List.mem_append.mp h' with h | h
    · exact .inr ⟨x, .head _, h⟩
    · rcases List.mem_cons.mp h with h | h
      · exact .inl h
      · rcases inter_mem c (y :: r) a h with h | ⟨z, hz, h⟩
        · exact .inl h
        · exact .inr ⟨z, .tail _ hz, h⟩
theorem mrows_13 {Ps : List (List (List Nat))} (hg : ∀ x ∈ Ps, Good x) : 13 ∉ (Ps.map fun p => inter 47 (kids Ps p) ++ [10]).flatten := by
  intro h
  obtain ⟨l, hl, h⟩ := List.mem_flatten.mp h
  obtain ⟨p, hp, rfl⟩ := List.mem_map.mp hl
  rcases List.mem_append.mp h with h | h
  · rcases inter_mem _ _ _ h with h | ⟨x, hx, h⟩
    · cases h
    · obtain ⟨y, hy, hxy⟩ := kids_mem hx
      exact ((hg y hy).gl x hxy).cr h
  · simp at h
theorem dots_len : ∀ (b : Bool) (l : List Nat), (dots b l).length ≤ 2 * l.length
  | _, [] => by simp [dots]
  | b, x :: r => by
    have h := dots_len (x == 10) r
    unfold dots
    split <;> simp <;> lia
theorem mail_c {w A s k} {d : Addr} {dv : List Value} {dm : Nat} {Ps : List (List (List Nat))} (kin : (K2 w.params).In s.heap) (hA : Ok (k+4) A) (hd0 : vis s.heap d = some (lstO dv dm)) (hdv : IsStrs dv (Ps.map pth))
    (hn : Ps.length ≤ 13) (hs : ∀ x ∈ Ps, x.length ≤ 3) (hg : ∀ x ∈ Ps, Good x) :
    Spec w A 233 [.ref d] (fun v _ _ => ∃ tk, v = .str (T (dots true (crlf (Ps.map fun p => inter 47 (kids Ps p) ++ [10]).flatten) ++ [46, 13, 10])) tk) s := by
  refine enterC (k := k+4) (binds := [("listing", .ref d)]) kin hA rfl rfl rfl rfl rfl (fun _ => rfl) rfl rfl rfl fun L s' Q' E' A' hL hL0 C hq => ?_
  refine binds_cons rfl ?_
  (((with_reducible refine st_l (by walk_at "cx") ?e1 ?e2 ?e3 ?_); (case e1 => exact rfl); (case e2 => exact rfl); (case e3 => exact rfl); intro _ _))
  rename_i C1
  refine binds_nil ?_
  refine hq _ _ _ C1 ?_
  clear hq C
  ((with_reducible refine ex_gen ?_); intro Qn hN hO)
  have x1 := (Ext.refl (vis s.heap)).put (o := cellO none) hL
  have hdl : dv.length = Ps.length := by rw [hdv.length, List.length_map]
  refine comp_s rfl rfl (by decide) rfl (by decide) (fun _ => rfl) rfl rfl ?_
  (refine nm_l (by walk_at "cx") rfl rfl rfl rfl rfl ?_)
  refine piter_list (by walk_at "cx") (x1 _ _ hd0) fun it2 o2 s6 hpos2 C8 => ?_
  refine ⟨it2, rfl, ⟨o2, dv.length, _, ltPos d, _, fun j ys g => Ext (vis s.heap) g ∧ g (L + 1) = some (cellO none) ∧ IsStrs ys ((Ps.take j).map fun p : List (List Nat) => pth p.dropLast), iters_list (n := dm) (hA.deeper _).hd, C8, rfl, hpos2, ⟨x1, put_self _ _ _, .nil⟩,
    fun j ys g h => h.1 _ _ hd0, fun j ys g g' e h => ⟨h.1.trans e, e _ _ h.2.1, h.2.2⟩, ?_, fun g g' e h => e _ _ h, fun Q E s₀ L l g pr s C hq => self_list C hpos2 hq, fun _ => rfl, ?_, ?_⟩⟩
  · rintro j ys g ⟨_, _, h⟩
    rw [h.length, List.length_map, List.length_take]; lia
  · intro C D oL j v ys g1 o1 s7 hj hDn hJ hv C9
    obtain ⟨hxo, hco, hys⟩ := hJ
    have hj' : j < Ps.length := by lia
    obtain ⟨t8, e8⟩ := hdv.get (i := j) (x := pth Ps[j]) (by simp [hj'])
    rw [e8] at hv
    obtain rfl := Option.some.inj hv
    have hgj := hg _ (List.getElem_mem hj')
    have hsj := hs _ (List.getElem_mem hj')
    clear C8 C1
    with_reducible refine wpAny_assign_Name ?_
    (((with_reducible refine st_l (by walk_at "cx") ?e1 ?e2 ?e3 ?_); (case e1 => exact rfl); (case e2 => exact rfl); (case e3 => exact rfl); intro _ _))
    rw [List.forIn_nil]
    refine wpAny_pure ?_
    rw [if_pos rfl]
    (with_reducible refine nm_call ?_)
    (refine nm_g (by walk_at "cx") rfl rfl rfl rfl rfl ?_)
    (refine' cu1 ?e1 ?e2 ?_); (case e1 => exact rfl); (case e2 => exact rfl)
    (refine nm_l (by walk_at "cx") rfl rfl rfl rfl rfl ?_)
    ((with_reducible refine And.intro ?k1 ?_); (case k1 => exact Cx.k (by walk_at "cx")))
    refine use (by walk_at "cx") (dir_all (k := k+1) (Cx.k (by walk_at "cx")) (hA.deeper _) hgj.gl (by lia)) fun v g5 s5 e5 q C5 => ?_
    obtain ⟨t5, rfl⟩ := q
    refine ⟨_, g5, e5, ⟨hxo.trans (Off.mono e5), Off.mono e5 _ _ hco, ?_⟩, C5⟩
    rw [List.take_succ_eq_append_getElem hj', List.map_append]
    exact hys.snoc
  · rintro ys g2 ⟨hx2, hc2, hys⟩ D g3 m s8 e3 hgD C9
    rw [hdl, List.take_length] at hys
    clear C8 C1
    ((with_reducible refine qnx (by assumption) ?_); (try clear hN hO))
    ((with_reducible refine ex_gen ?_); intro Qn hN hO)
    ((with_reducible refine wpAny_Assign_Name ?_ ?e1); (case e1 => exact rfl))
    ((with_reducible refine' const_T ?e1 ?_); (case e1 => first | exact slash_T | exact dot_T | exact dots_T | exact empty_T | exact nl_T | exact crlf_T | exact dcrlf_T | exact a_T | exact da_T | exact ddd_T | exact ah_T | exact sdots_T))
    (((with_reducible refine st_l (by walk_at "cx") ?e1 ?e2 ?e3 ?_); (case e1 => exact rfl); (case e2 => exact rfl); (case e3 => exact rfl); intro _ _))
    ((with_reducible refine qnx (by assumption) ?_); (try clear hN hO))
    ((with_reducible refine ex_gen ?_); intro Qn hN hO)
    ((with_reducible refine wpAny_For ?_ ?e1); (case e1 => (intro _; rfl)))
    (refine nm_l (by walk_at "cx") rfl rfl rfl rfl rfl ?_)
    rename_i C10
    clear C9
    have C11 := C10.nrm [("text", .str (T []) _), ("heads", .ref D), ("listing", .ref d)] ⟨rfl, rfl, rfl, trivial⟩
    have x3 := hx2.trans e3
    refine piter_list C11 (x3 _ _ hd0) fun it o s9 hpos C12 => ?_
    refine for_core (iters_list (n := dm) (hA.deeper _).hd) (fun i l g => Ext (vis s.heap) g ∧ (∃ v, g (L + 1) = some (cellO v)) ∧ g D = some (lstO ys m) ∧ ∃ t l', l = (("text", .str (T ((Ps.take i).map fun p => inter 47 (kids Ps p) ++ [10]).flatten) t) :: ("heads", .ref D) :: ("listing", .ref d) :: l' : List (Str × Value)))
      (fun i l g h => h.1 _ _ hd0) (fun i l g g' e h => ⟨h.1.trans e, ⟨_, e _ _ h.2.1.choose_spec⟩, e _ _ h.2.2.1, h.2.2.2⟩) ?_ ?_ ⟨x3, ⟨_, e3 _ _ hc2⟩, hgD, _, [], rfl⟩ hpos C12 (fun _ => rfl)
    · rintro i v l g o' s4 hi ⟨hx, ⟨cv, hcv⟩, hgD, t, l', rfl⟩ hv C5
      have hi' : i < Ps.length := by lia
      obtain ⟨t8, e8⟩ := hdv.get (i := i) (x := pth Ps[i]) (by simp [hi'])
      rw [e8] at hv
      obtain rfl := Option.some.inj hv
      have C6 := C5.nrm [("text", .str (T ((Ps.take i).map fun p => inter 47 (kids Ps p) ++ [10]).flatten) t), ("heads", .ref D), ("listing", .ref d)] ⟨rfl, rfl, rfl, trivial⟩
      clear C5 C12 C11 C10
      refine wpAny_assign_Name (st_c (v := .str (T (pth Ps[i])) t8) C6 rfl rfl rfl hcv hL0 fun s5 C7 => ?_)
      have hDc : D ≠ L + 1 := fun q => by rw [q, hcv] at hgD; simp [cellO, lstO] at hgD
      have x7 := hx.put (o := cellO (some (.str (T (pth Ps[i])) t8))) hL
      have gD7 : put g (L + 1) (cellO (some (.str (T (pth Ps[i])) t8))) D = some (lstO ys m) := by rw [put_ne _ _ hDc]; exact hgD
      clear C6
      ((with_reducible refine ex_gen ?_); intro Qn hN hO)
      have hkf : ∀ ns, (kids Ps ns).length ≤ 13 := fun ns => Nat.le_trans (kids_len Ps ns) hn
      refine comp_sZ rfl (hA.deeper _).hd rfl (by decide) rfl (by decide) (fun _ => rfl) (fun _ => rfl) (fun _ => rfl) (fun _ => rfl) (fun _ => rfl) rfl rfl ?_
      (with_reducible refine nm_call ?_)
      (refine nm_b (by walk_at "cx") rfl rfl rfl rfl rfl rfl rfl ?_)
      dsimp only
      refine ct2 rfl ?_
      (refine nm_l (by walk_at "cx") rfl rfl rfl rfl rfl ?_)
      (refine nm_l (by walk_at "cx") rfl rfl rfl rfl rfl ?_)
      refine zip_call (by walk_at "cx") (x7 _ _ hd0) gD7 fun z TI TO i1 i2 o1 o2 g8 s8 p1 p2 e8 hTO hTO0 hIO gI gO C8 => ?_
      refine zip_self C8 ?_
      refine ⟨z, rfl, ⟨TI, TO, i1, i2, _, _, _, _, o1, o2, _, _, _, _, fun j zs g => Ext (vis s.heap) g ∧ g (L + 1) = some (cellO (some (.str (T (pth Ps[i])) t8))) ∧ g D = some (lstO ys m) ∧ IsStrs zs (kids (Ps.take j) Ps[i]), C8, rfl, p1, p2, gI, gO, e8 _ _ (x7 _ _ hd0), e8 _ _ gD7, hTO0, hIO,
        Ext.ne (x7 _ _ hd0) hTO, Ext.ne gD7 hTO, by rw [hys.length, List.length_map, hdl], ⟨?_, ?_, ?_, .nil⟩, fun j zs g g' e h => ⟨h.1.trans e, e _ _ h.2.1, e _ _ h.2.2.1, h.2.2.2⟩, ?_, ?_, ?_⟩⟩
      · have hTO1 : vis s.heap TO = none := by
          cases q : vis s.heap TO with
          | none => rfl
          | some o => rw [x7 _ _ q] at hTO; cases hTO
        exact Off.of (x7.trans e8) hTO1 hTO1
      · have hLT : L + 1 ≠ TO := fun q => by rw [← q, put_self] at hTO; cases hTO
        unfold Off
        rw [if_neg (by simp [hLT])]
        exact e8 _ _ (put_self _ _ _)
      · unfold Off
        rw [if_neg (by simp [Ext.ne gD7 hTO])]
        exact e8 _ _ gD7
      · rintro j zs g ⟨_, _, _, h⟩
        rw [h.length]
        have := kids_len (Ps.take j) Ps[i]
        rw [List.length_take] at this; lia
      · intro C D2 j v1 v2 zs g9 pr' s9 hv1 hv2 hJ C9
        obtain ⟨hxo, hco, hgo, hzs⟩ := hJ
        have hj' : j < Ps.length := by rw [← hdl]; exact (List.getElem?_eq_some_iff.mp hv1).1
        obtain ⟨t1, f1⟩ := hdv.get (i := j) (x := pth Ps[j]) (by simp [hj'])
        obtain ⟨t2, f2⟩ := hys.get (i := j) (x := pth Ps[j].dropLast) (by simp [hj'])
        rw [f1] at hv1
        rw [f2] at hv2
        obtain rfl := Option.some.inj hv1
        obtain rfl := Option.some.inj hv2
        have hgj := hg _ (List.getElem_mem hj')
        have hgi := hg _ (List.getElem_mem hi')
        have hsj := hs _ (List.getElem_mem hj')
        have hstep := kids_step Ps Ps[i] hj'
        have hco9 := Off.ext _ _ _ _ _ hco
        generalize Ps[j] = ws at *
        generalize Ps[i] = ns at *
        clear C8 C7
        refine tests1 ?_
        with_reducible refine isTrue_and ?_
        ((with_reducible refine wpAny_isTrue_Compare1 ?_ ?e1); (case e1 => with_unfolding_all rfl))
        (refine nm_l (by walk_at "cx") rfl rfl rfl rfl rfl ?_)
        refine nm_c (c := L + 1) C9 rfl rfl rfl rfl hco9 ?_
        with_reducible refine PyProof.Rows.eq_str ?_
        with_reducible refine wpAny_truthy_bool ?_
        rw [T_beq]
        by_cases he : ws.dropLast = ns
        · refine it_of (by simp [he]) ?_
          with_reducible refine isTrue_and ?_
          ((with_reducible refine wpAny_isTrue_Compare1 ?_ ?e1); (case e1 => with_unfolding_all rfl))
          (refine nm_l (by walk_at "cx") rfl rfl rfl rfl rfl ?_)
          ((with_reducible refine' const_T ?e1 ?_); (case e1 => first | exact slash_T | exact dot_T | exact dots_T | exact empty_T | exact nl_T | exact crlf_T | exact dcrlf_T | exact a_T | exact da_T | exact ddd_T | exact ah_T | exact sdots_T))
          with_reducible refine PyProof.Rows.ne_str ?_
          with_reducible refine wpAny_truthy_bool ?_
          rw [T_bne, bne, pth_root hgj.gl]
          by_cases hw0 : ws = []
          · refine it_no (by simp [hw0]) ?_
            with_reducible refine it_f ?_
            rw [if_neg (by simp [hw0]), List.append_nil] at hstep
            refine ⟨_, _, Ext.refl _, ⟨hxo, hco, hgo, ?_⟩, by walk_at "cx"⟩
            rw [hstep]; exact hzs
          · refine it_of (by simp [hw0]) ?_
            with_reducible refine isTrue_and_nil ?_
            with_reducible refine it_t ?_
            (with_reducible refine nm_call ?_)
            (refine nm_g (by walk_at "cx") rfl rfl rfl rfl rfl ?_)
            (refine' cu1 ?e1 ?e2 ?_); (case e1 => exact rfl); (case e2 => exact rfl)
            (refine nm_l (by walk_at "cx") rfl rfl rfl rfl rfl ?_)
            ((with_reducible refine And.intro ?k1 ?_); (case k1 => exact Cx.k (by walk_at "cx")))
            rcases List.eq_nil_or_concat ws with h | ⟨w', y, h⟩
            · exact absurd h hw0
            rw [List.concat_eq_append] at h
            subst h
            refine use (by walk_at "cx") (base_p (k := k+1) (Cx.k (by walk_at "cx")) (hA.deeper _) hgj.gl (by simp at hsj; lia)) fun v g5 s5 e5 q C5 => ?_
            obtain ⟨t5, rfl⟩ := q
            rw [if_pos ⟨hw0, he⟩, List.getLastD_concat] at hstep
            refine ⟨_, g5, e5, ⟨hxo.trans (Off.mono e5), Off.mono e5 _ _ hco, Off.mono e5 _ _ hgo, ?_⟩, C5⟩
            rw [hstep]; exact hzs.snoc
        · have hne : ¬ (pth ws.dropLast = pth ns) := fun q => he (pth_inj (fun a ha => hgj.gl a (List.dropLast_subset _ ha)) hgi.gl q)
          refine it_no (by simp [hne]) ?_
          with_reducible refine it_f ?_
          rw [if_neg (by simp [he]), List.append_nil] at hstep
          refine ⟨_, _, Ext.refl _, ⟨hxo, hco, hgo, ?_⟩, C9⟩
          rw [hstep]; exact hzs
      · rintro zs D2 g9 ⟨hx9, hc9, hd9, hzs⟩ m2 g10 s10 e10 hg10 C10
        clear C8 C7
        rw [hdl, List.take_length] at hzs
        have hk3 : ∀ x ∈ kids Ps Ps[i], x.length ≤ 3 := kids_3 (fun x hx y hy => ((hg x hx).gl y hy).len) Ps[i]
        have hkl := kids_len Ps Ps[i]
        have hrl := inter_le 47 (B := 3) hk3
        have hll := mrows_len hn hg i
        ((with_reducible refine qnx (by assumption) ?_); (try clear hN hO))
        ((with_reducible refine ex_gen ?_); intro Qn hN hO)
        (with_reducible refine wpAny_AugAssign_Name ?_)
        (refine ld_l (by walk_at "cx") rfl rfl rfl rfl ?_)
        with_reducible refine wpAny_BinOp ?_
        (refine' Call_method1 ?e1 ?e2 ?e3 ?_); (case e1 => exact rfl); (case e2 => exact rfl); (case e3 => exact rfl)
        ((with_reducible refine' const_T ?e1 ?_); (case e1 => first | exact slash_T | exact dot_T | exact dots_T | exact empty_T | exact nl_T | exact crlf_T | exact dcrlf_T | exact a_T | exact da_T | exact ddd_T | exact ah_T | exact sdots_T))
        refine m_join ?_
        (refine nm_l (by walk_at "cx") rfl rfl rfl rfl rfl ?_)
        refine ⟨D2, zs, m2, kids Ps Ps[i], rfl, hzs, fun x h => Nat.le_trans (hk3 x h) (by decide), by lia, by walk_at "cx", hg10, fun t5 s9 C11 => ?_⟩
        ((with_reducible refine' const_T ?e1 ?_); (case e1 => first | exact slash_T | exact dot_T | exact dots_T | exact empty_T | exact nl_T | exact crlf_T | exact dcrlf_T | exact a_T | exact da_T | exact ddd_T | exact ah_T | exact sdots_T))
        with_reducible refine SB.add ?_ ?_
        rotate_left
        · rw [T_len, T_len]; rw [sizeLine_eq]; simp at hll ⊢; lia
        intro t9 k9
        rw [T_app]
        with_reducible refine SB.iadd ?_ ?_
        rotate_left
        · rw [T_len, T_len]; rw [sizeLine_eq]; simp at hll ⊢; lia
        intro t8 k8
        rw [T_app]
        dsimp only
        (((with_reducible refine st_l (by walk_at "cx") ?e1 ?e2 ?e3 ?_); (case e1 => exact rfl); (case e2 => exact rfl); (case e3 => exact rfl); intro _ _))
        ((with_reducible refine qnx (by assumption) ?_); (try clear hN hO))
        with_reducible refine wpAny_execs_nil ?_
        dsimp only
        rename_i C12
        have heq : ((Ps.take (i + 1)).map fun p => inter 47 (kids Ps p) ++ [10]).flatten = ((Ps.take i).map fun p => inter 47 (kids Ps p) ++ [10]).flatten ++ (inter 47 (kids Ps Ps[i]) ++ [10]) := by
          rw [List.take_succ_eq_append_getElem hi', List.map_append, List.flatten_append]; simp
        have e11 := (Off.ext D2 TO g9).trans e10
        refine ⟨_, g10, ⟨hx9.trans e11, ⟨_, e11 _ _ hc9⟩, e11 _ _ hd9, t8, [], rfl⟩, ?_⟩
        rw [heq]
        exact C12.nrm _ ⟨rfl, rfl, rfl, trivial⟩
    · rintro l g s4 ⟨hx, _, hgD, t, l', rfl⟩ C5
      rw [hdl, List.take_length] at C5
      ((with_reducible refine qnx (by assumption) ?_); (try clear hN hO))
      ((with_reducible refine ex_gen ?_); intro Qn hN hO)
      with_reducible refine wpAny_Return_some ?_
      with_reducible refine wpAny_BinOp ?_
      (with_reducible refine nm_call ?_)
      (refine nm_g (by walk_at "cx") rfl rfl rfl rfl rfl ?_)
      (refine' cu1 ?e1 ?e2 ?_); (case e1 => exact rfl); (case e2 => exact rfl)
      (refine nm_l (by walk_at "cx") rfl rfl rfl rfl rfl ?_)
      ((with_reducible refine And.intro ?k1 ?_); (case k1 => exact Cx.k (by walk_at "cx")))
      have hll := mrows_len hn hg Ps.length
      rw [List.take_length] at hll
      refine use (by walk_at "cx") (quotedata_c (k := k+1) (Cx.k (by walk_at "cx")) (hA.deeper _) (mrows_13 hg) hll) fun v g5 s5 e5 q C6 => ?_
      obtain ⟨t5, rfl⟩ := q
      ((with_reducible refine' const_T ?e1 ?_); (case e1 => first | exact slash_T | exact dot_T | exact dots_T | exact empty_T | exact nl_T | exact crlf_T | exact dcrlf_T | exact a_T | exact da_T | exact ddd_T | exact ah_T | exact sdots_T))
      with_reducible refine SB.add ?_ ?_
      rotate_left
      · rw [T_len, T_len, sizeLine_eq]
        have h1 := dots_len true (crlf ((Ps.map fun p => inter 47 (kids Ps p) ++ [10]).flatten))
        have h2 := crlf_len ((Ps.map fun p => inter 47 (kids Ps p) ++ [10]).flatten)
        simp only [List.length_cons, List.length_nil]
        lia
      intro t9 k9
      rw [T_app]
      ((with_reducible refine qot (by assumption) ?e1 ?_); (case e1 => exact fun h => nomatch h); (try clear hN hO))
      dsimp only
      refine And.intro (Cx.to (by walk_at "cx")) ?_
      exact ⟨_, rfl⟩
end PartE9

section PartE10
/-- a call of a def with two cells -/
theorem enterC2 {w : World} {A : Around} {s : Shared} {f : Addr} {args : List Value} {Post : Value → Vis → Vis → Prop} {fd : FuncData} {body : List Stmt} {binds : List (Str × Value)} {oc od osl k}
    (kin : (K2 w.params).In s.heap) (hA : Ok k A)
    (hl : (K2 w.params).lookup f = some ⟨oc, od, .func fd, osl⟩)
    (hcd : codeIn (K2 w.params) fd.code fd.qualname = true)
    (hbody : fd.body = .stmts body) (hbind : bindArgs fd ⟨args, []⟩ = pure binds) (hclo : fd.closure = [])
    (hcell : ∀ h : Heap, pushCells h fd.scope.names = (h.push (cellO none)).push (cellO none))
    (hco : fd.scope.isCoroutine = false) (hgen : fd.scope.isGenerator = false) (hk : fd.scope.kind = .function)
    (h : ∀ L s' (Q' : PUnit → Shared → Prop) (E' : Value → Shared → Prop) A', vis s.heap (L + 1) = none → s.heap.get? (L + 1) = none → vis s.heap (L + 2) = none → s.heap.get? (L + 2) = none → Cx w s L [] (put (put (vis s.heap) (L + 1) (cellO none)) (L + 2) (cellO none)) [] s' →
      (∀ l g s'', Cx w s L l g [] s'' → wpAny (model P w) (A.deeper (callEnvC fd L f)) (execs body (callEnvC fd L f)) (fun fl s' => To s s' ∧ Post (match fl with | .ret v => v | _ => .none) (vis s.heap) (vis s'.heap)) (fun _ _ => False) s'' → Q' ⟨⟩ s'') →
      wpAny (model P w) A' (forIn binds PUnit.unit fun x _ => do storeName (callEnvC fd L f) x.1 x.2; pure (ForInStep.yield PUnit.unit)) Q' E' s') :
    Spec w A f args Post s := by
  intro R E hR
  refine wpAny_call (codeAny_call_function hA.room (kin _ _ hl) rfl hco hgen hbody (codeRec_of kin hcd) (BindsTo.of_eq hbind _ _ _ _ ?_))
  rw [hclo]
  simp only [newFunctionEnv, Option.isSome_none, Bool.false_eq_true, if_false]
  refine wpAny_bind (wpAny_alloc ?_)
  refine wpAny_bind (wpAny_layCells _ (fun name kind cells => by cases hkc : kind == NameKind.cell <;> simp [hkc]) _ _ _ _ ?_)
  have hsz : (s.heap.push { cls := .type "frame", data := .dict #[] }).objs.size = s.heap.objs.size + 1 := Heap.size_push ..
  have hnone : s.heap.get? s.heap.objs.size = none := size_none _
  have hv0 : ∀ b o, s.heap.get? b = some o → (s.heap.push { cls := .type "frame", data := .dict #[] }).get? b = some o := fun b o e => Heap.get?_push_of_some _ e
  have C0 : Cx w s s.heap.objs.size [] (vis s.heap) [] { s with heap := s.heap.push { cls := .type "frame", data := .dict #[] } } := by
    refine ⟨kin, hv0, hnone, ⟨fun _ => none, Heap.Ns.new s.heap (.type "frame"), fun x v e => by cases e⟩, ?_, rfl, rfl, rfl, (fun _ h => nomatch h), List.nodup_nil⟩
    funext b
    by_cases hb : b = s.heap.objs.size
    · rw [hb, vis_hid (Heap.get?_push_size _ rfl) rfl, vis_none hnone]
    · exact vis_congr (Heap.get?_push_ne _ _ _ hb)
  have z := C0.push (o := cellO none) rfl rfl s.toks
  have z0 := size_none₀ C0
  have z1 := z.1
  have z2 := z.2
  have y := z2.push (o := cellO none) rfl rfl s.toks
  have y0 := size_none₀ z2
  have y1 := y.1
  have y2 := y.2
  change s.heap.get? (s.heap.push { cls := .type "frame", data := .dict #[] }).objs.size = none at z0
  change vis s.heap (s.heap.push { cls := .type "frame", data := .dict #[] }).objs.size = none at z1
  change s.heap.get? ((s.heap.push { cls := .type "frame", data := .dict #[] }).push (cellO none)).objs.size = none at y0
  change put (vis s.heap) (s.heap.push { cls := .type "frame", data := .dict #[] }).objs.size (cellO none) ((s.heap.push { cls := .type "frame", data := .dict #[] }).push (cellO none)).objs.size = none at y1
  change Cx w s s.heap.objs.size [] (put (put (vis s.heap) (s.heap.push { cls := .type "frame", data := .dict #[] }).objs.size (cellO none)) ((s.heap.push { cls := .type "frame", data := .dict #[] }).push (cellO none)).objs.size (cellO none)) [] { s with heap := ((s.heap.push { cls := .type "frame", data := .dict #[] }).push (cellO none)).push (cellO none) } at y2
  have hsz2 : ((s.heap.push { cls := .type "frame", data := .dict #[] }).push (cellO none)).objs.size = s.heap.objs.size + 2 := by rw [Heap.size_push, hsz]
  rw [hsz2, hsz] at y1 y2
  rw [hsz2] at y0
  rw [hsz] at z0 z1
  have y1' := (put_none y1).2
  dsimp only
  simp only [hcell, hsz]
  show wpAny (model P w) A.in1 (do
      forIn binds PUnit.unit fun x __s => do
          storeName (callEnvC fd s.heap.objs.size f) x.fst x.snd
          pure (ForInStep.yield PUnit.unit)
      pure (callEnvC fd s.heap.objs.size f)) _ _ _
  refine wpAny_bind (wpAny_mono (h s.heap.objs.size _ (fun _ s' => (K2 w.params).In s'.heap ∧ wpAny (model P w) (A.deeper (callEnvC fd s.heap.objs.size f)) (execs body (callEnvC fd s.heap.objs.size f))
    (fun fl s' => To s s' ∧ Post (match fl with | .ret v => v | _ => .none) (vis s.heap) (vis s'.heap)) (fun _ _ => False) s') _ _ z1 z0 y1' y0 y2 (fun l g s'' C q => ⟨C.k, q⟩)) (fun _ s' q => ?_) fun _ _ q => q)
  refine wpAny_pure ?_
  refine ⟨noLimit q.1, codeAny_func ?_⟩
  exact wpAny_mono q.2 (fun fl s' q => hR _ _ q.1 q.2) (fun _ _ q => q.elim)
end PartE10

section PartE11
noncomputable def unq (row : List Nat) : List Nat := if row.take 1 = [46] then row.drop 1 else row
noncomputable def hungs (K : List (List (List Nat))) (n : Nat) (row : List Nat) : List (List (List Nat)) := ((spl 47 (unq row)).filter fun x => decide (x ≠ [])).map fun x => K.getD n [] ++ [x]
noncomputable def takeS (st : List (List (List Nat)) × Nat × Bool) (row : List Nat) : List (List (List Nat)) × Nat × Bool :=
  if st.2.2 = true ∨ row = [46] then (st.1, st.2.1, true) else (st.1 ++ hungs st.1 st.2.1 row, st.2.1 + 1, false)
theorem join_pth {ns : List (List Nat)} {x : List Nat} (h : GL ns) : (if (pth ns).getLast? = some 47 then pth ns ++ x else pth ns ++ 47 :: x) = pth (ns ++ [x]) := by
  rw [pth_snoc]
  by_cases e : ns = []
  · subst e; rfl
  · have hp : par ns = pth ns := if_neg e
    have := par_last h
    rw [hp] at this ⊢
    rw [if_neg this]
theorem unq_len (row : List Nat) : (unq row).length ≤ row.length := by unfold unq; split <;> simp
theorem IsStrs.app {vs ws : List Value} {xs ys : List (List Nat)} (h : IsStrs vs xs) (q : IsStrs ws ys) : IsStrs (vs ++ ws) (xs ++ ys) := by
  obtain ⟨a, rfl, e⟩ := h
  obtain ⟨b, rfl, f⟩ := q
  exact ⟨a ++ b, by simp [strValues], by simp [e, f]⟩
theorem take_c {w A s k} {st kn : Addr} {kv : List Value} {km n : Nat} {e : Bool} {u tr : Tok} {K : List (List (List Nat))} {row : List Nat} (kin : (K2 w.params).In s.heap) (hA : Ok (k+5) A)
    (h0 : vis s.heap st = some (tupO [.ref kn, .int (n : Int) u, .bool e])) (h1 : vis s.heap kn = some (lstO kv km)) (h2 : IsStrs kv (K.map pth)) (hK : K.length ≤ 200) (hg : ∀ x ∈ K, GL x ∧ x.length ≤ 20)
    (hr : row.length ≤ 900) (hrow : e = false → row ≠ [46] → n < K.length ∧ ∀ x ∈ spl 47 (unq row), x ≠ [] → GN x) :
    Spec w A 243 [.ref st, .str (T row) tr] (fun v g g' => ∃ a kn' kv' km' u', v = .ref a ∧ g' a = some (tupO [.ref kn', .int ((takeS (K, n, e) row).2.1 : Int) u', .bool (takeS (K, n, e) row).2.2]) ∧ g' kn' = some (lstO kv' km') ∧ IsStrs kv' ((takeS (K, n, e) row).1.map pth)) s := by
  refine enterC2 (k := k+5) (binds := [("state", .ref st), ("row", .str (T row) tr)]) kin hA rfl rfl rfl rfl rfl (fun _ => rfl) rfl rfl rfl fun L s' Q' E' A' hL hL0 hM hM0 C hq => ?_
  refine binds_cons rfl ?_
  (((with_reducible refine st_l (by walk_at "cx") ?e1 ?e2 ?e3 ?_); (case e1 => exact rfl); (case e2 => exact rfl); (case e3 => exact rfl); intro _ _))
  refine binds_cons rfl ?_
  (((with_reducible refine st_l (by walk_at "cx") ?e1 ?e2 ?e3 ?_); (case e1 => exact rfl); (case e2 => exact rfl); (case e3 => exact rfl); intro _ _))
  rename_i C1
  refine binds_nil ?_
  refine hq _ _ _ C1 ?_
  clear hq C
  have hLM : L + 1 ≠ L + 2 := by simp
  have x1 := ((Ext.refl (vis s.heap)).put (o := cellO none) hL).put (o := cellO none) hM
  have c1 : put (put (vis s.heap) (L + 1) (cellO none)) (L + 2) (cellO none) (L + 1) = some (cellO none) := by rw [put_ne _ _ hLM, put_self]
  have c2 : put (put (vis s.heap) (L + 1) (cellO none)) (L + 2) (cellO none) (L + 2) = some (cellO none) := put_self _ _ _
  generalize put (put (vis s.heap) (L + 1) (cellO none)) (L + 2) (cellO none) = g1 at *
  ((with_reducible refine ex_gen ?_); intro Qn hN hO)
  ((with_reducible refine Assign_Tuple ?_ ?e1 ?e2); (case e1 => exact rfl); (case e2 => exact rfl))
  (refine nm_l (by walk_at "cx") rfl rfl rfl rfl rfl ?_)
  refine unp3 C1 (x1 _ _ h0) (hA.deeper _).hd rfl fun g2 s2 e2 C2 => ?_
  with_reducible refine wpAny_assign_Name ?_
  refine st_c C2 rfl rfl rfl (e2 _ _ c1) hL0 fun s3 C3 => ?_
  have c2' : put g2 (L + 1) (cellO (some (.ref kn))) (L + 2) = some (cellO none) := by rw [put_ne _ _ (Ne.symm hLM)]; exact e2 _ _ c2
  with_reducible refine wpAny_assign_Name ?_
  refine st_c C3 rfl rfl rfl c2' hM0 fun s4 C4 => ?_
  have x4 : Ext (vis s.heap) (put (put g2 (L + 1) (cellO (some (.ref kn)))) (L + 1 + 1) (cellO (some (.int (n : Int) u)))) := ((x1.trans e2).put (o := cellO (some (.ref kn))) hL).put hM
  have d1 : put (put g2 (L + 1) (cellO (some (.ref kn)))) (L + 1 + 1) (cellO (some (.int (n : Int) u))) (L + 1) = some (cellO (some (.ref kn))) := by rw [put_ne _ _ hLM, put_self]
  have d2 : put (put g2 (L + 1) (cellO (some (.ref kn)))) (L + 1 + 1) (cellO (some (.int (n : Int) u))) (L + 2) = some (cellO (some (.int (n : Int) u))) := put_self _ _ _
  generalize put (put g2 (L + 1) (cellO (some (.ref kn)))) (L + 1 + 1) (cellO (some (.int (n : Int) u))) = g4 at *
  clear C2 C3 C1 c2' c1 c2 x1
  with_reducible refine wpAny_assign_Name ?_
  (((with_reducible refine st_l (by walk_at "cx") ?e1 ?e2 ?e3 ?_); (case e1 => exact rfl); (case e2 => exact rfl); (case e3 => exact rfl); intro _ _))
  ((with_reducible refine qnx (by assumption) ?_); (try clear hN hO))
  ((with_reducible refine ex_gen ?_); intro Qn hN hO)
  with_reducible refine wpAny_If ?_
  with_reducible refine isTrue_or ?_
  ((with_reducible refine isTrue_plain ?_ ?e1); (case e1 => exact rfl))
  (refine nm_l (by walk_at "cx") rfl rfl rfl rfl rfl ?_)
  with_reducible refine wpAny_truthy_bool ?_
  cases e
  · refine it_f ?_
    with_reducible refine isTrue_or ?_
    ((with_reducible refine wpAny_isTrue_Compare1 ?_ ?e1); (case e1 => with_unfolding_all rfl))
    (refine nm_l (by walk_at "cx") rfl rfl rfl rfl rfl ?_)
    ((with_reducible refine' const_T ?e1 ?_); (case e1 => first | exact slash_T | exact dot_T | exact dots_T | exact empty_T | exact nl_T | exact crlf_T | exact dcrlf_T | exact a_T | exact da_T | exact ddd_T | exact ah_T | exact sdots_T))
    with_reducible refine PyProof.Rows.eq_str ?_
    with_reducible refine wpAny_truthy_bool ?_
    rw [T_beq]
    by_cases hrd : row = [46]
    · refine it_of (by simp [hrd]) ?_
      with_reducible refine it_t ?_
      ((with_reducible refine ex_gen ?_); intro Qn hN hO)
      with_reducible refine wpAny_Return_some ?_
      with_reducible refine tup_ ?_
      ((with_reducible refine wpAny_items_cons ?_ ?e1); (case e1 => exact rfl))
      refine nm_c (c := L + 1) (by walk_at "cx") rfl rfl rfl rfl d1 ?_
      ((with_reducible refine wpAny_items_cons ?_ ?e1); (case e1 => exact rfl))
      refine nm_c (c := L + 2) (by walk_at "cx") rfl rfl rfl rfl d2 ?_
      ((with_reducible refine wpAny_items_cons ?_ ?e1); (case e1 => exact rfl))
      with_reducible refine Constant_bool ?_
      with_reducible refine wpAny_items_nil ?_
      refine ⟨by ((show _ ≤ 16777216; simp; done)), by walk_at "cx", fun a s5 ha ha0 C5 => ?_⟩
      ((with_reducible refine qot (by assumption) ?e1 ?_); (case e1 => exact fun h => nomatch h); (try clear hN hO))
      ((with_reducible refine qot (by assumption) ?e1 ?_); (case e1 => exact fun h => nomatch h); (try clear hN hO))
      dsimp only
      refine And.intro (Cx.to (by walk_at "cx")) ?_
      have hts : takeS (K, n, false) row = (K, n, true) := if_pos (by simp [hrd])
      rw [hts]
      (rw [Cx.vis (by walk_at "cx")])
      exact ⟨a, kn, kv, km, u, rfl, put_self _ _ _, by rw [put_ne _ _ (Ext.ne (x4 _ _ h1) ha)]; exact x4 _ _ h1, h2⟩
    · refine it_no (by simp [hrd]) ?_
      have hts : takeS (K, n, false) row = (K ++ hungs K n row, n + 1, false) := if_neg (by simp [hrd])
      obtain ⟨hnK, hnm⟩ := hrow rfl hrd
      with_reducible refine isTrue_or_nil ?_
      with_reducible refine it_f ?_
      with_reducible refine wpAny_execs_nil ?_
      ((with_reducible refine qnx (by assumption) ?_); (try clear hN hO))
      ((with_reducible refine ex_gen ?_); intro Qn hN hO)
      refine wpAny_mono (Q := fun f s' => f = Flow.next ∧ ∃ t l', Cx w s L (("plain", .str (T (unq row)) t) :: l') g4 [] s') ?_ (fun f s' q => ?_) (fun _ _ q => q)
      · ((with_reducible refine wpAny_Assign_Name ?_ ?e1); (case e1 => exact rfl))
        with_reducible refine IfExp_ ?_
        ((with_reducible refine wpAny_isTrue_Compare1 ?_ ?e1); (case e1 => with_unfolding_all rfl))
        refine sl_str ?e1 ?_
        case e1 => (intro _ _; rfl)
        (refine nm_l (by walk_at "cx") rfl rfl rfl rfl rfl ?_)
        (rw [evalPart_none]); with_reducible refine wpAny_pure ?_
        rw [evalPart_some]
        with_reducible refine wpAny_Constant_int ?_
        dsimp only
        refine ⟨T row, tr, none, some (_, _), rfl, rfl, rfl, ?_, _, slice_first _, by walk_at "cx", fun t6 s6 C6 => ?_⟩
        · rw [T_len, sizeLine_eq]; lia
        ((with_reducible refine' const_T ?e1 ?_); (case e1 => first | exact slash_T | exact dot_T | exact dots_T | exact empty_T | exact nl_T | exact crlf_T | exact dcrlf_T | exact a_T | exact da_T | exact ddd_T | exact ah_T | exact sdots_T))
        with_reducible refine PyProof.Rows.eq_str ?_
        with_reducible refine wpAny_truthy_bool ?_
        rw [T_beq]
        by_cases hq : row.take 1 = [46]
        · refine it_of (by simp [hq]) ?_
          refine sl_str ?e1 ?_
          case e1 => (intro _ _; rfl)
          (refine nm_l (by walk_at "cx") rfl rfl rfl rfl rfl ?_)
          rw [evalPart_some]
          with_reducible refine wpAny_Constant_int ?_
          (rw [evalPart_none]); with_reducible refine wpAny_pure ?_
          dsimp only
          refine ⟨T row, tr, some (_, _), none, rfl, rfl, rfl, ?_, _, slice_rest _, by walk_at "cx", fun t7 s7 C7 => ?_⟩
          · rw [T_len, sizeLine_eq]; lia
          have hun : unq row = row.drop 1 := if_pos hq
          rw [← hun]
          (((with_reducible refine st_l (by walk_at "cx") ?e1 ?e2 ?e3 ?_); (case e1 => exact rfl); (case e2 => exact rfl); (case e3 => exact rfl); intro _ _))
          exact ⟨rfl, _, _, by walk_at "cx"⟩
        · refine it_no (by simp [hq]) ?_
          have hun : unq row = row := if_neg hq
          (refine nm_l (by walk_at "cx") rfl rfl rfl rfl rfl ?_)
          (((with_reducible refine st_l (by walk_at "cx") ?e1 ?e2 ?e3 ?_); (case e1 => exact rfl); (case e2 => exact rfl); (case e3 => exact rfl); intro _ _))
          rw [hun]
          exact ⟨rfl, _, _, by walk_at "cx"⟩
      · obtain ⟨rfl, t9, l9, Cq⟩ := q
        refine qnx hN ?_
        clear hN hO
        ((with_reducible refine ex_gen ?_); intro Qn hN hO)
        have hql := unq_len row
        have hsl := spl_len 47 (unq row)
        refine comp_s rfl rfl (by decide) rfl (by decide) (fun _ => rfl) rfl rfl ?_
        (refine' Call_method1 ?e1 ?e2 ?e3 ?_); (case e1 => exact rfl); (case e2 => exact rfl); (case e3 => exact rfl)
        (refine nm_l (by walk_at "cx") rfl rfl rfl rfl rfl ?_)
        refine m_split (c := 47) (Nat.le_trans hql (by lia)) ?_
        ((with_reducible refine' const_T ?e1 ?_); (case e1 => first | exact slash_T | exact dot_T | exact dots_T | exact empty_T | exact nl_T | exact crlf_T | exact dcrlf_T | exact a_T | exact da_T | exact ddd_T | exact ah_T | exact sdots_T))
        refine ⟨_, rfl, by walk_at "cx", fun D vs s8 hvs hD hD0 C8 => ?_⟩
        refine piter_list C8 (put_self _ _ _) fun it o s9 hpos C9 => ?_
        have hvD : vis s.heap D = none := by
          cases q : vis s.heap D with
          | none => rfl
          | some o => rw [x4 _ _ q] at hD; cases hD
        have x9 := x4.put (o := lstO vs 0) hvD
        have y9 := (Ext.refl g4).put (o := lstO vs 0) hD
        refine ⟨it, rfl, ⟨o, vs.length, _, ltPos D, _, fun j ys g => Ext (put g4 D (lstO vs 0)) g ∧ IsStrs ys (((((spl 47 (unq row)).take j).filter fun x => decide (x ≠ [])).map fun x => K.getD n [] ++ [x]).map pth), iters_list (n := 0) (hA.deeper _).hd, C9, rfl, hpos, ⟨Ext.refl _, .nil⟩,
          fun j ys g h => h.1 _ _ (put_self _ _ _), fun j ys g g' e h => ⟨h.1.trans e, h.2⟩, ?_, fun g g' e h => e _ _ h, fun Q E s₀ L l g pr s C hq => self_list C hpos hq, fun _ => rfl, ?_, ?_⟩⟩
        · rintro j ys g ⟨_, h⟩
          rw [h.length, List.length_map, List.length_map]
          have := List.length_filter_le (fun x => decide (x ≠ [])) ((spl 47 (unq row)).take j)
          rw [List.length_take] at this
          lia
        · intro C D' oL j v ys g1 o1 s10 hj hDn hJ hv C10
          obtain ⟨hxo, hys⟩ := hJ
          have hj' : j < (spl 47 (unq row)).length := by rw [← hvs.length]; exact hj
          obtain ⟨t8, e8⟩ := hvs.get (i := j) (x := (spl 47 (unq row))[j]) (by simp [hj'])
          rw [e8] at hv
          obtain rfl := Option.some.inj hv
          have hxn := hnm _ (List.getElem_mem hj')
          have hstep : ((spl 47 (unq row)).take (j + 1)).filter (fun x => decide (x ≠ [])) = ((spl 47 (unq row)).take j).filter (fun x => decide (x ≠ [])) ++ (if (spl 47 (unq row))[j] = [] then [] else [(spl 47 (unq row))[j]]) := by
            rw [List.take_succ_eq_append_getElem hj', List.filter_append]
            congr 1
            by_cases h : (spl 47 (unq row))[j] = []
            · rw [if_pos h, List.filter_cons_of_neg (by simp [h])]; rfl
            · rw [if_neg h, List.filter_cons_of_pos (by simp [h])]; rfl
          generalize (spl 47 (unq row))[j] = nm at *
          have hx9 := hxo.trans (Off.ext _ _ _)
          clear C9 C8
          with_reducible refine wpAny_assign_Name ?_
          (((with_reducible refine st_l (by walk_at "cx") ?e1 ?e2 ?e3 ?_); (case e1 => exact rfl); (case e2 => exact rfl); (case e3 => exact rfl); intro _ _))
          refine tests1 ?_
          ((with_reducible refine wpAny_isTrue_Compare1 ?_ ?e1); (case e1 => with_unfolding_all rfl))
          (refine nm_l (by walk_at "cx") rfl rfl rfl rfl rfl ?_)
          ((with_reducible refine' const_T ?e1 ?_); (case e1 => first | exact slash_T | exact dot_T | exact dots_T | exact empty_T | exact nl_T | exact crlf_T | exact dcrlf_T | exact a_T | exact da_T | exact ddd_T | exact ah_T | exact sdots_T))
          with_reducible refine PyProof.Rows.ne_str ?_
          with_reducible refine wpAny_truthy_bool ?_
          rw [T_bne]
          by_cases h : nm = []
          · refine it_no (by simp [h]) ?_
            rw [if_pos h, List.append_nil] at hstep
            refine ⟨_, _, Ext.refl _, ⟨hxo, ?_⟩, by walk_at "cx"⟩
            rw [hstep]; exact hys
          · refine it_of (by simp [h]) ?_
            (with_reducible refine nm_call ?_)
            (refine nm_g (by walk_at "cx") rfl rfl rfl rfl rfl ?_)
            (refine' cu2 ?e1 ?e2 ?_); (case e1 => exact rfl); (case e2 => exact rfl)
            ((with_reducible refine Subscript_Name ?_ ?e1); (case e1 => (intro _ _; rfl)))
            have hy9 := y9.trans hx9
            refine nm_c (c := L + 1) (by walk_at "cx") rfl rfl rfl rfl (hy9 _ _ d1) ?_
            refine nm_c (c := L + 2) (by walk_at "cx") rfl rfl rfl rfl (hy9 _ _ d2) ?_
            obtain ⟨tz, ez⟩ := h2.get (i := n) (x := pth K[n]) (by simp [hnK])
            refine item_lst (by walk_at "cx") (hy9 _ _ (x4 _ _ h1)) ez (by lia) ?_
            (refine nm_l (by walk_at "cx") rfl rfl rfl rfl rfl ?_)
            ((with_reducible refine And.intro ?k1 ?_); (case k1 => exact Cx.k (by walk_at "cx")))
            have hgn := hg _ (List.getElem_mem hnK)
            have hpl := pth_len hgn.1
            have hxl := (hxn h).len
            refine use (by walk_at "cx") (join_c (k := k + 1) (Cx.k (by walk_at "cx")) (hA.deeper _) (by simp [pth]) h (hxn h).sl (by lia)) fun v g5 s5 e5 q C5 => ?_
            obtain ⟨t5, rfl⟩ := q
            rw [join_pth hgn.1]
            rw [if_neg h] at hstep
            refine ⟨_, g5, e5, ⟨hxo.trans (Off.mono e5), ?_⟩, C5⟩
            rw [hstep, List.map_append, List.map_append]
            have hKn : K.getD n [] = K[n] := by rw [List.getD_eq_getElem?_getD, List.getElem?_eq_getElem hnK]; rfl
            show IsStrs _ (_ ++ [pth (K.getD n [] ++ [nm])])
            have hKp : pth (K.getD n [] ++ [nm]) = pth (K[n] ++ [nm]) := by rw [hKn]
            rw [hKp]
            exact hys.snoc
        · rintro ys g2 ⟨hx2, hys⟩ D3 g3 m s11 e3 hgD C11
          rw [hvs.length, List.take_length] at hys
          clear C9 C8
          have hz := y9.trans (hx2.trans e3)
          have hlen := hys.length
          have hkl := h2.length
          rw [List.length_map, List.length_map] at hlen
          rw [List.length_map] at hkl
          have hfl := List.length_filter_le (fun x => decide (x ≠ [])) (spl 47 (unq row))
          ((with_reducible refine qnx (by assumption) ?_); (try clear hN hO))
          ((with_reducible refine ex_gen ?_); intro Qn hN hO)
          with_reducible refine wpAny_Return_some ?_
          with_reducible refine tup_ ?_
          ((with_reducible refine wpAny_items_cons ?_ ?e1); (case e1 => exact rfl))
          with_reducible refine wpAny_BinOp ?_
          refine nm_c (c := L + 1) (by walk_at "cx") rfl rfl rfl rfl (hz _ _ d1) ?_
          (refine nm_l (by walk_at "cx") rfl rfl rfl rfl rfl ?_)
          refine add_lst (by walk_at "cx") (hz _ _ (x4 _ _ h1)) hgD (by lia) fun D4 s12 hD4 hD40 C12 => ?_
          ((with_reducible refine wpAny_items_cons ?_ ?e1); (case e1 => exact rfl))
          with_reducible refine wpAny_BinOp ?_
          refine nm_c (c := L + 2) (by walk_at "cx") rfl rfl rfl rfl (by rw [put_ne _ _ (Ext.ne (hz _ _ d2) hD4)]; exact hz _ _ d2) ?_
          with_reducible refine wpAny_Constant_int ?_
          with_reducible refine add_int ?_
          ((with_reducible refine wpAny_items_cons ?_ ?e1); (case e1 => exact rfl))
          with_reducible refine Constant_bool ?_
          with_reducible refine wpAny_items_nil ?_
          dsimp only
          refine ⟨by ((show _ ≤ 16777216; simp; done)), by walk_at "cx", fun a s13 ha ha0 C13 => ?_⟩
          ((with_reducible refine qot (by assumption) ?e1 ?_); (case e1 => exact fun h => nomatch h); (try clear hN hO))
          dsimp only
          refine And.intro (Cx.to (by walk_at "cx")) ?_
          rw [hts]
          (rw [Cx.vis (by walk_at "cx")])
          refine ⟨a, D4, kv ++ ys, 0, _, rfl, put_self _ _ _, ?_, ?_⟩
          · rw [put_ne _ _ (Ext.ne (put_self g3 D4 _) ha)]; exact put_self _ _ _
          · show IsStrs (kv ++ ys) ((K ++ hungs K n row).map pth)
            rw [List.map_append]
            exact IsStrs.app h2 hys
  · refine it_t ?_
    with_reducible refine it_t ?_
    ((with_reducible refine ex_gen ?_); intro Qn hN hO)
    with_reducible refine wpAny_Return_some ?_
    with_reducible refine tup_ ?_
    ((with_reducible refine wpAny_items_cons ?_ ?e1); (case e1 => exact rfl))
    refine nm_c (c := L + 1) (by walk_at "cx") rfl rfl rfl rfl d1 ?_
    ((with_reducible refine wpAny_items_cons ?_ ?e1); (case e1 => exact rfl))
    refine nm_c (c := L + 2) (by walk_at "cx") rfl rfl rfl rfl d2 ?_
    ((with_reducible refine wpAny_items_cons ?_ ?e1); (case e1 => exact rfl))
    with_reducible refine Constant_bool ?_
    with_reducible refine wpAny_items_nil ?_
    refine ⟨by ((show _ ≤ 16777216; simp; done)), by walk_at "cx", fun a s5 ha ha0 C5 => ?_⟩
    ((with_reducible refine qot (by assumption) ?e1 ?_); (case e1 => exact fun h => nomatch h); (try clear hN hO))
    ((with_reducible refine qot (by assumption) ?e1 ?_); (case e1 => exact fun h => nomatch h); (try clear hN hO))
    dsimp only
    refine And.intro (Cx.to (by walk_at "cx")) ?_
    have hts : takeS (K, n, true) row = (K, n, true) := if_pos (by simp)
    rw [hts]
    (rw [Cx.vis (by walk_at "cx")])
    exact ⟨a, kn, kv, km, u, rfl, put_self _ _ _, by rw [put_ne _ _ (Ext.ne (x4 _ _ h1) ha)]; exact x4 _ _ h1, h2⟩
end PartE11

section PartE12
theorem enterB {w : World} {A : Around} {s : Shared} {f : Addr} {args : List Value} {Post : Value → Vis → Vis → Prop} {fd : FuncData} {body : List Stmt} {binds : List (Str × Value)} {oc od osl k}
    (kin : (K2 w.params).In s.heap) (hA : Ok k A)
    (hl : (K2 w.params).lookup f = some ⟨oc, od, .func fd, osl⟩)
    (hcd : codeIn (K2 w.params) fd.code fd.qualname = true)
    (hbody : fd.body = .stmts body) (hbind : BindsTo s fd ⟨args, []⟩ binds)
    (hcell : (fd.scope.names.all fun x => !(x.2 == .cell)) = true) (hloc : (binds.all fun x => fd.scope.names.lookup x.1 == some .local) = true)
    (hco : fd.scope.isCoroutine = false) (hgen : fd.scope.isGenerator = false) (hk : fd.scope.kind = .function)
    (h : ∀ L s', Cx w s L binds.reverse (vis s.heap) [] s' →
      wpAny (model P w) (A.deeper (callEnv fd L f)) (execs body (callEnv fd L f)) (fun fl s' => To s s' ∧ Post (match fl with | .ret v => v | _ => .none) (vis s.heap) (vis s'.heap)) (fun _ _ => False) s') :
    Spec w A f args Post s := by
  intro R E hR
  refine wpAny_call (codeAny_call_function hA.room (kin _ _ hl) rfl hco hgen hbody (codeRec_of kin hcd) (hbind _ _ _ _ ?_))
  refine wpAny_newFunctionEnv (fun x hx e => ?_) (fun x hx => ?_) (fun h₀ hns₀ hsb₀ => ⟨(noLimit kin).fresh _ hsb₀, codeAny_func ?_⟩) hk
  · have := List.all_eq_true.mp hcell x hx
    rw [e] at this; cases this
  · exact beq_iff_eq.mp (List.all_eq_true.mp hloc x hx)
  · have hv : ∀ b o, s.heap.get? b = some o → h₀.get? b = some o := fun b o e => hsb₀.extBut b o (Nat.ne_of_lt (Heap.lt_size e)) (Heap.get?_push_of_some _ e)
    have hnone : s.heap.get? s.heap.objs.size = none := by
      cases q : s.heap.get? s.heap.objs.size with
      | none => rfl
      | some o => exact absurd (Heap.lt_size q) (Nat.lt_irrefl _)
    refine wpAny_mono (h s.heap.objs.size { s with heap := h₀, toks := s.toks + binds.length } ⟨kin, hv, hnone, ⟨_, hns₀, fun x v e => e⟩, ?_, rfl, rfl, rfl, (fun _ h => nomatch h), List.nodup_nil⟩) (fun fl s' q => hR _ _ q.1 q.2) (fun _ _ q => q.elim)
    funext b
    by_cases hb : b = s.heap.objs.size
    · obtain ⟨o, es, ep, ho, hd, _⟩ := hns₀
      rw [hb, vis_dict ho hd, vis_none hnone]
    · refine vis_congr ((hsb₀.2 b hb).trans (Heap.get?_push_ne _ _ _ hb))
theorem iter_call {w : World} {A : Around} {E : Value → Shared → Prop} {s s₀ : Shared} {L : Addr} {l : List (Str × Value)} {g : Vis} {pr : List (Addr × Obj)} {a : Addr} {vs : List Value} {n : Nat} {Q : Value → Shared → Prop}
    (C : Cx w s₀ L l g pr s) (hg : g a = some (lstO vs n)) (h : ∀ it o s', ltPos a 0 o → Cx w s₀ L l g ((it, o) :: pr) s' → Q (.ref it) s') : wpAny (model P w) A (call (.builtin "iter") [.ref a] []) Q E s := by
  refine Calls.call_function_entry (by decide +kernel) (by decide +kernel) kdk_entry_iter (kdk_args_iter _) ?_
  unfold Builtin.«iter»
  refine wpAny_bind (m := someArgs "iter" 1 2 _) (wpAny_of_eq (a := [Value.ref a]) (by first | rfl | kernel_rfl!) ?_)
  show wpAny _ _ (pyIter (.ref a) >>= _) _ _ _
  refine wpAny_bind (piter_list C hg fun it o s' hp C' => ?_)
  exact wpAny_pure ⟨_, rfl, h it o s' hp C'⟩
theorem is_ref_other {M : Model} {A : Around} {E : Value → Shared → Prop} {s : Shared} {Q : Value → Shared → Prop} {x y : Addr} {ox oy : Obj} (hxy : x ≠ y) (hx : s.heap.get? x = some ox) (hy : s.heap.get? y = some oy) (hnt : oy.cls ≠ .type "tuple")
    (h : Q (.bool false) s) : wpAny M A (compareOp .Is (.ref x) (.ref y)) Q E s := by
  show wpAny M A (do return .bool (← isSame (.ref x) (.ref y))) Q E s
  refine wpAny_bind ?_
  show wpAny M A (if (x == y) = true then pure true else _) _ E s
  rw [if_neg (by simpa using hxy)]
  refine wpAny_bind (wpAny_load hx (wpAny_bind (wpAny_load hy ?_)))
  split
  · rename_i _ h2 _ _; exact absurd h2 hnt
  · exact wpAny_pure (wpAny_pure h)
noncomputable abbrev TSt := List (List (List Nat)) × Nat × Bool
noncomputable def runS (st : TSt) (rows : List (List Nat)) : TSt := rows.foldl takeS st
structure StOk (st : TSt) (rw0 : List Nat) : Prop where
  few : st.1.length ≤ 200
  gl : ∀ x ∈ st.1, GL x ∧ x.length ≤ 20
  len : rw0.length ≤ 900
  hang : st.2.2 = false → rw0 ≠ [46] → st.2.1 < st.1.length ∧ ∀ x ∈ spl 47 (unq rw0), x ≠ [] → GN x
noncomputable def IsSt (g : Vis) (a : Addr) (st : TSt) : Prop := ∃ kn kv km u, g a = some (tupO [.ref kn, .int (st.2.1 : Int) u, .bool st.2.2]) ∧ g kn = some (lstO kv km) ∧ IsStrs kv (st.1.map pth)
theorem IsSt.mono {g g' : Vis} {a : Addr} {st : TSt} (e : Ext g g') (h : IsSt g a st) : IsSt g' a st := by
  obtain ⟨kn, kv, km, u, h1, h2, h3⟩ := h
  exact ⟨kn, kv, km, u, e _ _ h1, e _ _ h2, h3⟩
theorem reduce_c {w A s k} {d a : Addr} {dv : List Value} {dm : Nat} {rows : List (List Nat)} {st : TSt} (kin : (K2 w.params).In s.heap) (hA : Ok (k+6) A)
    (hd0 : vis s.heap d = some (lstO dv dm)) (hdv : IsStrs dv rows) (h0 : IsSt (vis s.heap) a st) (hok : ∀ i (h : i < rows.length), StOk (runS st (rows.take i)) rows[i]) :
    Spec w A 54 [.ref 243, .ref d, .ref a] (fun v g g' => ∃ b, v = .ref b ∧ IsSt g' b (runS st rows)) s := by
  refine enterB (binds := [("function", .ref 243), ("sequence", .ref d), ("initial", .ref a)]) kin hA rfl rfl rfl (BindsTo.of_defaults rfl (kin _ _ rfl) rfl rfl rfl) rfl rfl rfl rfl rfl fun L s' C => ?_
  ((with_reducible refine ex_gen ?_); intro Qn hN hO)
  ((with_reducible refine wpAny_Assign_Name ?_ ?e1); (case e1 => exact rfl))
  (with_reducible refine nm_call ?_)
  (refine nm_b (by walk_at "cx") rfl rfl rfl rfl rfl rfl rfl ?_)
  (refine' cb1 ?e2 ?_); (case e2 => exact rfl)
  (refine nm_l (by walk_at "cx") rfl rfl rfl rfl rfl ?_)
  refine iter_call (by walk_at "cx") hd0 fun it o s1 hpos C1 => ?_
  obtain ⟨kn, kv, km, u, q1, q2, q3⟩ := h0
  have hms : ∃ oy, (K2 w.params).lookup 46 = some oy ∧ oy.cls ≠ .type "tuple" := ⟨_, rfl, fun h => absurd (Value.type.inj h) (by decide)⟩
  obtain ⟨oy, hl46, hnt⟩ := hms
  have hne : a ≠ 46 := by
    rintro rfl
    have h1 := (vis_get q1).1
    rw [kin _ _ hl46] at h1
    rw [Option.some.inj h1] at hnt
    exact hnt rfl
  (((with_reducible refine st_l (by walk_at "cx") ?e1 ?e2 ?e3 ?_); (case e1 => exact rfl); (case e2 => exact rfl); (case e3 => exact rfl); intro _ _))
  ((with_reducible refine qnx (by assumption) ?_); (try clear hN hO))
  ((with_reducible refine ex_gen ?_); intro Qn hN hO)
  with_reducible refine wpAny_If ?_
  ((with_reducible refine wpAny_isTrue_Compare1 ?_ ?e1); (case e1 => with_unfolding_all rfl))
  (refine nm_l (by walk_at "cx") rfl rfl rfl rfl rfl ?_)
  (refine nm_g (by walk_at "cx") rfl rfl rfl rfl rfl ?_)
  dsimp only
  refine is_ref_other hne (Cx.at (by walk_at "cx") q1) (Cx.k (by walk_at "cx") _ _ hl46) hnt ?_
  with_reducible refine wpAny_truthy_bool ?_
  with_reducible refine it_f ?_
  ((with_reducible refine ex_gen ?_); intro Qn hN hO)
  ((with_reducible refine wpAny_Assign_Name ?_ ?e1); (case e1 => exact rfl))
  (refine nm_l (by walk_at "cx") rfl rfl rfl rfl rfl ?_)
  (((with_reducible refine st_l (by walk_at "cx") ?e1 ?e2 ?e3 ?_); (case e1 => exact rfl); (case e2 => exact rfl); (case e3 => exact rfl); intro _ _))
  ((with_reducible refine qnx (by assumption) ?_); (try clear hN hO))
  with_reducible refine wpAny_execs_nil ?_
  ((with_reducible refine qnx (by assumption) ?_); (try clear hN hO))
  ((with_reducible refine ex_gen ?_); intro Qn hN hO)
  ((with_reducible refine wpAny_For ?_ ?e1); (case e1 => (intro _; rfl)))
  (refine nm_l (by walk_at "cx") rfl rfl rfl rfl rfl ?_)
  rename_i C2
  have C3 := C2.nrm [("value", .ref a), ("it", .ref it), ("function", .ref 243)] ⟨rfl, rfl, rfl, trivial⟩
  clear C2 C1
  refine self_list C3 hpos ?_
  have hdl := hdv.length
  refine for_core (iters_list (n := dm) (hA.deeper _).hd) (fun i l g => Ext (vis s.heap) g ∧ ∃ b, IsSt g b (runS st (rows.take i)) ∧ ∃ l', l = (("value", .ref b) :: ("it", .ref it) :: ("function", .ref 243) :: l' : List (Str × Value)))
    (fun i l g h => h.1 _ _ hd0) (fun i l g g' e h => ⟨h.1.trans e, h.2.choose, h.2.choose_spec.1.mono e, h.2.choose_spec.2⟩) ?_ ?_ ⟨Ext.refl _, a, ⟨kn, kv, km, u, q1, q2, q3⟩, [], rfl⟩ hpos C3 (fun _ => rfl)
  · rintro i v l g o' s4 hi ⟨hx, b, hst, l', rfl⟩ hv C5
    have hi' : i < rows.length := by omega
    obtain ⟨t8, e8⟩ := hdv.get (i := i) (x := rows[i]) (by simp [hi'])
    rw [e8] at hv
    obtain rfl := Option.some.inj hv
    have C6 := C5.nrm [("value", .ref b), ("it", .ref it), ("function", .ref 243)] ⟨rfl, rfl, rfl, trivial⟩
    have ok := hok i hi'
    have hstep : runS st (rows.take (i + 1)) = takeS (runS st (rows.take i)) rows[i] := by
      unfold runS
      rw [List.take_succ_eq_append_getElem hi', List.foldl_append]; rfl
    generalize rows[i] = row at *
    generalize runS st (rows.take i) = st1 at *
    clear C5 C3 C
    with_reducible refine wpAny_assign_Name ?_
    (((with_reducible refine st_l (by walk_at "cx") ?e1 ?e2 ?e3 ?_); (case e1 => exact rfl); (case e2 => exact rfl); (case e3 => exact rfl); intro _ _))
    ((with_reducible refine ex_gen ?_); intro Qn hN hO)
    ((with_reducible refine wpAny_Assign_Name ?_ ?e1); (case e1 => exact rfl))
    (with_reducible refine nm_call ?_)
    (refine nm_l (by walk_at "cx") rfl rfl rfl rfl rfl ?_)
    (refine' cu2 ?e1 ?e2 ?_); (case e1 => exact rfl); (case e2 => exact rfl)
    (refine nm_l (by walk_at "cx") rfl rfl rfl rfl rfl ?_)
    (refine nm_l (by walk_at "cx") rfl rfl rfl rfl rfl ?_)
    ((with_reducible refine And.intro ?k1 ?_); (case k1 => exact Cx.k (by walk_at "cx")))
    obtain ⟨kn1, kv1, km1, u1, r1, r2, r3⟩ := hst
    refine use (by walk_at "cx") (take_c (k := k) (Cx.k (by walk_at "cx")) (hA.deeper _) (by (rw [Cx.vis (by walk_at "cx")]); exact r1) (by (rw [Cx.vis (by walk_at "cx")]); exact r2) r3 ok.few ok.gl ok.len ok.hang) fun v g5 s5 e5 q C7 => ?_
    obtain ⟨a5, kn5, kv5, km5, u5, rfl, w1, w2, w3⟩ := q
    (((with_reducible refine st_l (by walk_at "cx") ?e1 ?e2 ?e3 ?_); (case e1 => exact rfl); (case e2 => exact rfl); (case e3 => exact rfl); intro _ _))
    ((with_reducible refine qnx (by assumption) ?_); (try clear hN hO))
    with_reducible refine wpAny_execs_nil ?_
    dsimp only
    rename_i C8
    refine ⟨_, g5, ⟨hx.trans e5, a5, ⟨kn5, kv5, km5, u5, ?_, w2, ?_⟩, [], rfl⟩, C8.nrm _ ⟨rfl, rfl, rfl, trivial⟩⟩
    · rw [hstep]; exact w1
    · rw [hstep]; exact w3
  · rintro l g s4 ⟨hx, b, hst, l', rfl⟩ C5
    rw [hdl, List.take_length] at hst
    ((with_reducible refine qnx (by assumption) ?_); (try clear hN hO))
    ((with_reducible refine ex_gen ?_); intro Qn hN hO)
    with_reducible refine wpAny_Return_some ?_
    (refine nm_l (by walk_at "cx") rfl rfl rfl rfl rfl ?_)
    ((with_reducible refine qot (by assumption) ?e1 ?_); (case e1 => exact fun h => nomatch h); (try clear hN hO))
    dsimp only
    refine And.intro (Cx.to (by walk_at "cx")) ?_
    (rw [Cx.vis (by walk_at "cx")])
    exact ⟨b, rfl, hst⟩
end PartE12

section PartL1
theorem quo_lt (a b : List Nat) : (quo a < quo b) ↔ a < b := by
  cases a with
  | nil => cases b with
    | nil => simp [quo]
    | cons c r => unfold quo; by_cases h : c = 46 <;> simp [h]
  | cons x l => cases b with
    | nil => unfold quo; by_cases h : x = 46 <;> simp [h]
    | cons c r =>
      unfold quo
      by_cases h1 : x = 46 <;> by_cases h2 : c = 46
      · subst h1 h2; simp [List.cons_lt_cons_iff]
      · subst h1
        have : ¬ (46 = c) := fun e => h2 e.symm
        simp [h2, this, List.cons_lt_cons_iff]
      · subst h2; simp [h1, List.cons_lt_cons_iff]
      · simp [h1, h2]
theorem llt_snoc : ∀ (x y : List (List Nat)) (a b : List Nat), x.length = y.length → llt (x ++ [a]) (y ++ [b]) = if x = y then decide (a < b) else llt x y
  | [], [], a, b, _ => by
    simp only [List.nil_append, if_true]
    unfold llt
    by_cases h : a = b
    · rw [if_pos h, h]; simp [llt]
    · rw [if_neg h]
  | [], _ :: _, _, _, h => by simp at h
  | _ :: _, [], _, _, h => by simp at h
  | c :: x, d :: y, a, b, h => by
    have ih := llt_snoc x y a b (by simpa using h)
    simp only [List.cons_append]
    rw [llt, llt]
    by_cases e : c = d
    · subst e
      rw [if_pos rfl, if_pos rfl, ih]
      by_cases e2 : x = y
      · simp [e2]
      · simp [e2]
    · rw [if_neg e, if_neg e, if_neg (by simp [e])]
theorem ordR_zero : ∀ rs qs : List (List Nat), ordR rs qs = 0 ↔ rs = qs
  | [], [] => by simp [ordR]
  | [], _ :: _ => by simp [ordR]
  | _ :: _, [] => by simp [ordR]
  | a :: r, b :: q => by
    have ih := ordR_zero r q
    unfold ordR
    by_cases h : a :: r = b :: q
    · simp [h]
    · rw [if_neg h]
      simp only [h, iff_false]
      by_cases h2 : ordR r q ≠ 0
      · rw [if_pos h2]; exact h2
      · rw [if_neg h2]; split <;> decide
theorem ordR_neg : ∀ rs qs : List (List Nat), decide (ordR rs qs < 0) = wlt rs.reverse qs.reverse
  | [], [] => by simp [ordR, wlt, llt]
  | [], b :: q => by simp [ordR, wlt]
  | a :: r, [] => by simp [ordR, wlt]
  | a :: r, b :: q => by
    have ih := ordR_neg r q
    have iz := ordR_zero r q
    unfold ordR
    by_cases h : a :: r = b :: q
    · rw [if_pos h, h, wlt_irrefl]; rfl
    · rw [if_neg h]
      simp only [List.reverse_cons]
      by_cases hl : r.length = q.length
      · have hw : wlt (r.reverse ++ [a]) (q.reverse ++ [b]) = llt (r.reverse ++ [a]) (q.reverse ++ [b]) := by unfold wlt; rw [if_pos (by simp [hl])]
        rw [hw, llt_snoc _ _ _ _ (by simp [hl])]
        have hi : wlt r.reverse q.reverse = llt r.reverse q.reverse := by unfold wlt; rw [if_pos (by simp [hl])]
        by_cases e : r = q
        · subst e
          rw [if_neg (by simp [(ordR_zero r r).mpr rfl]), if_pos rfl]
          by_cases q2 : quo a < quo b
          · rw [if_pos q2]; simp [(quo_lt a b).mp q2]
          · rw [if_neg q2]
            have : ¬ a < b := fun z => q2 ((quo_lt a b).mpr z)
            simp [this]
        · rw [if_pos (fun z => e (iz.mp z)), if_neg (fun z => e (List.reverse_inj.mp z)), ih, hi]
      · have e : r ≠ q := fun z => hl (by rw [z])
        rw [if_pos (fun z => e (iz.mp z)), ih]
        unfold wlt
        rw [if_neg (by simpa using hl), if_neg (by simpa using hl)]
        simp
end PartL1

section PartL2
theorem climb_mem : ∀ (rs : List (List Nat)) (ps : List (List (List Nat))), [] ∈ ps → (∀ t ∈ ps, t <+: rs.reverse → ∀ u, u <+: t → u ∈ ps) → ∀ p, p ∈ climbR ps rs ↔ p ∈ ps ∨ p <+: rs.reverse
  | [], ps, h0, _, p => by
    simp only [climbR, List.reverse_nil, List.prefix_nil]
    exact ⟨.inl, fun h => h.elim id fun e => e ▸ h0⟩
  | a :: r, ps, h0, H, p => by
    unfold climbR
    by_cases hx : (a :: r).reverse ∈ ps
    · rw [if_pos hx]
      exact ⟨.inl, fun h => h.elim id fun e => H _ hx (List.prefix_refl _) _ e⟩
    · rw [if_neg hx]
      have ih := climb_mem r (ps ++ [(a :: r).reverse]) (List.mem_append_left _ h0) (fun t ht hp u hu => by
        rcases List.mem_append.mp ht with ht | ht
        · exact List.mem_append_left _ (H t ht (by rw [List.reverse_cons]; exact hp.trans (List.prefix_append _ _)) u hu)
        · rw [List.mem_singleton.mp ht] at hp
          have := hp.length_le
          simp at this
          lia) p
      rw [ih, List.mem_append, List.mem_singleton, List.reverse_cons, List.prefix_concat_iff]
      constructor
      · rintro ((h | h) | h)
        · exact .inl h
        · exact .inr (.inl h)
        · exact .inr (.inr h)
      · rintro (h | h | h)
        · exact .inl (.inl h)
        · exact .inl (.inr h)
        · exact .inr h
theorem climb_nodup : ∀ (rs : List (List Nat)) (ps : List (List (List Nat))), ps.Nodup → (climbR ps rs).Nodup
  | [], _, h => h
  | a :: r, ps, h => by
    unfold climbR
    split
    · exact h
    · rename_i hn
      refine climb_nodup r _ (List.nodup_append.mpr ⟨h, by simp, fun x hx y hy => ?_⟩)
      rw [List.mem_singleton.mp hy]
      exact fun e => hn (e ▸ hx)
theorem adds_mem (ns : List (List Nat)) : ∀ (ks : List Nat) (ws : List (List (List Nat))) (p : List (List Nat)), p ∈ ks.foldl (addP1 ns) ws ↔ p ∈ ws ∨ ∃ k ∈ ks, p = ns.take (k + 1)
  | [], ws, p => by simp
  | k :: ks, ws, p => by
    rw [List.foldl_cons, adds_mem ns ks]
    have : p ∈ addP1 ns ws k ↔ p ∈ ws ∨ p = ns.take (k + 1) := by
      unfold addP1
      split
      · rename_i h
        exact ⟨.inl, fun z => z.elim id fun e => e ▸ h⟩
      · simp
    rw [this]
    simp only [List.mem_cons, exists_eq_or_imp]
    constructor
    · rintro ((h | h) | h)
      · exact .inl h
      · exact .inr (.inl h)
      · exact .inr (.inr h)
    · rintro (h | h | h)
      · exact .inl (.inl h)
      · exact .inl (.inr h)
      · exact .inr h
theorem addP_mem (ns : List (List Nat)) (ws : List (List (List Nat))) (h0 : [] ∈ ws) (p : List (List Nat)) : p ∈ addP ws ns ↔ p ∈ ws ∨ p <+: ns := by
  unfold addP
  rw [adds_mem]
  constructor
  · rintro (h | ⟨k, _, h⟩)
    · exact .inl h
    · exact .inr (h ▸ List.take_prefix _ _)
  · rintro (h | h)
    · exact .inl h
    · by_cases hp : p = []
      · exact .inl (hp ▸ h0)
      · refine .inr ⟨p.length - 1, ?_, ?_⟩
        · have := h.length_le
          have : 0 < p.length := List.length_pos_iff.mpr hp
          rw [List.mem_range]; omega
        · have : 0 < p.length := List.length_pos_iff.mpr hp
          rw [Nat.sub_add_cancel this]
          exact (List.prefix_iff_eq_take.mp h)
/-- a set of names lists that holds all beginnings -/
structure Cl (ps : List (List (List Nat))) : Prop where
  nil : [] ∈ ps
  pre : ∀ t ∈ ps, ∀ u, u <+: t → u ∈ ps
theorem Cl.climb {ps : List (List (List Nat))} (c : Cl ps) (ns : List (List Nat)) : Cl (climbR ps ns.reverse) ∧ ∀ p, p ∈ climbR ps ns.reverse ↔ p ∈ ps ∨ p <+: ns := by
  have h := climb_mem ns.reverse ps c.nil (fun t ht _ u hu => c.pre t ht u hu)
  rw [List.reverse_reverse] at h
  refine ⟨⟨(h _).mpr (.inl c.nil), fun t ht u hu => (h u).mpr ?_⟩, h⟩
  rcases (h t).mp ht with q | q
  · exact .inl (c.pre t q u hu)
  · exact .inr (hu.trans q)
theorem same_mem : ∀ (ds : List (List (List Nat))) (ps ws : List (List (List Nat))), Cl ps → ps.Nodup → (∀ p, p ∈ ps ↔ p ∈ ws) →
    (∀ p, p ∈ ds.foldl (fun ps ts => climbR ps (walk ts).reverse) ps ↔ p ∈ ds.foldl (fun ws ts => addP ws (walk ts)) ws) ∧ Cl (ds.foldl (fun ps ts => climbR ps (walk ts).reverse) ps) ∧ (ds.foldl (fun ps ts => climbR ps (walk ts).reverse) ps).Nodup
  | [], ps, ws, c, nd, h => ⟨h, c, nd⟩
  | ts :: ds, ps, ws, c, nd, h => by
    have z := c.climb (walk ts)
    refine same_mem ds _ _ z.1 (climb_nodup _ _ nd) fun p => ?_
    rw [z.2 p, addP_mem _ _ ((h _).mp c.nil), h p]
theorem places_ways (ds : List (List (List Nat))) : (∀ p, p ∈ placesOf ds ↔ p ∈ waysRaw ds) ∧ Cl (placesOf ds) ∧ (placesOf ds).Nodup :=
  same_mem ds [[]] [[]] ⟨by simp, fun t ht u hu => by rw [List.mem_singleton.mp ht] at hu; simpa using hu⟩ (by simp) fun _ => Iff.rfl
/-- strictly ordered lists of like members are one -/
theorem sorted_one {l m : List (List (List Nat))} (hm : ∀ p, p ∈ l ↔ p ∈ m) (hl : l.Pairwise (fun x y => wlt x y = true)) (hk : m.Pairwise (fun x y => wlt x y = true)) : l = m := by
  have nd : ∀ {k : List (List (List Nat))}, k.Pairwise (fun x y => wlt x y = true) → k.Nodup := fun h => h.imp fun {a b} q e => by rw [e, wlt_irrefl] at q; cases q
  have p : l.Perm m := (List.perm_ext_iff_of_nodup (nd hl) (nd hk)).mpr hm
  exact p.eq_of_pairwise (fun a b _ _ h1 h2 => by rw [wlt_asym h1] at h2; cases h2) hl hk
end PartL2

section PartL3
noncomputable def chs (W : List (List (List Nat))) (x : List (List Nat)) : List (List (List Nat)) := W.filter fun y => decide (y ≠ []) && decide (y.dropLast = x)
theorem chs_map (W : List (List (List Nat))) (x : List (List Nat)) : (kids W x).map (fun n => x ++ [n]) = chs W x := by
  unfold kids chs
  rw [List.map_map]
  have : ∀ y ∈ W.filter (fun y => decide (y ≠ []) && decide (y.dropLast = x)), ((fun n => x ++ [n]) ∘ fun y : List (List Nat) => y.getLastD []) y = y := fun y hy => by
    have h := (List.mem_filter.mp hy).2
    simp only [Bool.and_eq_true, decide_eq_true_eq] at h
    rcases List.eq_nil_or_concat y with e | ⟨w', z, e⟩
    · exact absurd e h.1
    · rw [List.concat_eq_append] at e
      subst e
      rw [List.dropLast_concat] at h
      show x ++ [(w' ++ [z]).getLastD []] = _
      rw [List.getLastD_concat, h.2]
  rw [List.map_congr_left this]; simp
theorem mem_chs {W : List (List (List Nat))} {x y : List (List Nat)} : y ∈ chs W x ↔ y ∈ W ∧ y ≠ [] ∧ y.dropLast = x := by
  unfold chs
  rw [List.mem_filter]; simp
theorem wlt_chs {W : List (List (List Nat))} {x y p q : List (List Nat)} (h : wlt x y = true) (hp : p ∈ chs W x) (hq : q ∈ chs W y) : wlt p q = true := by
  obtain ⟨_, p0, rfl⟩ := mem_chs.mp hp
  obtain ⟨_, q0, rfl⟩ := mem_chs.mp hq
  rcases List.eq_nil_or_concat p with e | ⟨u, a, e⟩
  · exact absurd e p0
  rcases List.eq_nil_or_concat q with e' | ⟨v, b, e'⟩
  · exact absurd e' q0
  rw [List.concat_eq_append] at e e'
  subst e e'
  rw [List.dropLast_concat, List.dropLast_concat] at h
  unfold wlt at h ⊢
  by_cases hl : u.length = v.length
  · rw [if_pos hl] at h
    rw [if_pos (by simp [hl]), llt_snoc _ _ _ _ hl]
    have : u ≠ v := fun z => by rw [z, llt_irrefl] at h; cases h
    rw [if_neg this]; exact h
  · rw [if_neg hl] at h
    rw [if_neg (by simpa using hl)]
    simpa using h
theorem bfs {W : List (List (List Nat))} (c : Cl W) (hs : W.Pairwise (fun x y => wlt x y = true)) : [] :: W.flatMap (chs W) = W := by
  refine sorted_one (fun p => ?_) ?_ hs
  · rw [List.mem_cons, List.mem_flatMap]
    constructor
    · rintro (h | ⟨x, _, h⟩)
      · exact h ▸ c.nil
      · exact (mem_chs.mp h).1
    · intro h
      by_cases e : p = []
      · exact .inl e
      · exact .inr ⟨p.dropLast, c.pre p h _ (List.dropLast_prefix p), mem_chs.mpr ⟨h, e, rfl⟩⟩
  · refine List.pairwise_cons.mpr ⟨fun p hp => ?_, ?_⟩
    · obtain ⟨x, _, h⟩ := List.mem_flatMap.mp hp
      have h1 := (mem_chs.mp h).2.1
      have : 0 < p.length := List.length_pos_iff.mpr h1
      unfold wlt
      rw [if_neg (by simp; lia)]
      simp [this]
    · rw [List.pairwise_flatMap]
      exact ⟨fun a _ => hs.filter _, hs.imp fun {x y} h p hp q hq => wlt_chs h hp hq⟩
/-- what the reader knows after i rows -/
noncomputable def knw (W : List (List (List Nat))) (i : Nat) : List (List (List Nat)) := [] :: (W.take i).flatMap (chs W)
theorem knw_all {W : List (List (List Nat))} (c : Cl W) (hs : W.Pairwise (fun x y => wlt x y = true)) : knw W W.length = W := by
  unfold knw; rw [List.take_length]; exact bfs c hs
theorem knw_succ (W : List (List (List Nat))) {i : Nat} (h : i < W.length) : knw W (i + 1) = knw W i ++ chs W W[i] := by
  unfold knw
  rw [List.take_succ_eq_append_getElem h, List.flatMap_append]
  simp
theorem knw_prefix {W : List (List (List Nat))} (c : Cl W) (hs : W.Pairwise (fun x y => wlt x y = true)) (i : Nat) : knw W i <+: W := by
  have h := bfs c hs
  refine ⟨(W.drop i).flatMap (chs W), ?_⟩
  conv => rhs; rw [← h]
  unfold knw
  rw [List.cons_append, ← List.flatMap_append, List.take_append_drop]
theorem knw_far {W : List (List (List Nat))} (c : Cl W) (hs : W.Pairwise (fun x y => wlt x y = true)) {i : Nat} (h : i < W.length) : i < (knw W i).length := by
  refine Classical.byContradiction fun hn => ?_
  have hn : (knw W i).length ≤ i := by lia
  have hpre := knw_prefix c hs i
  have pw := List.pairwise_iff_getElem.mp hs
  have in_k : W[i] ∈ knw W i := by
    by_cases e : W[i] = []
    · rw [e]; simp [knw]
    · have hd := c.pre _ (List.getElem_mem h) _ (List.dropLast_prefix W[i])
      obtain ⟨j, hj, ej⟩ := List.getElem_of_mem hd
      have hlt : wlt W[j] W[i] = true := by
        rw [ej]
        unfold wlt
        have : 0 < W[i].length := List.length_pos_iff.mpr e
        rw [if_neg (by simp; lia)]
        simp; lia
      have hji : j < i := by
        rcases Nat.lt_trichotomy j i with q | q | q
        · exact q
        · subst q; rw [wlt_irrefl] at hlt; cases hlt
        · have := pw i j h hj q
          rw [wlt_asym this] at hlt; cases hlt
      unfold knw
      refine List.mem_cons_of_mem _ (List.mem_flatMap.mpr ⟨W[j], ?_, mem_chs.mpr ⟨List.getElem_mem h, e, ej.symm⟩⟩)
      rw [List.mem_take_iff_getElem]
      exact ⟨j, by lia, rfl⟩
  obtain ⟨m, hm, em⟩ := List.getElem_of_mem in_k
  have em' : W[m]'(by lia) = W[i] := by rw [← em]; exact (hpre.getElem hm).symm
  have := pw m i (by lia) h (by lia)
  rw [em', wlt_irrefl] at this; cases this
end PartL3

section PartL4
noncomputable def rowQ (W : List (List (List Nat))) (x : List (List Nat)) : List Nat := quo (inter 47 (kids W x))
theorem unq_quo (x : List Nat) : unq (quo x) = x := by
  by_cases h : x.take 1 = [46]
  · rw [quo_yes h]; rfl
  · rw [quo_no h]; exact if_neg h
theorem rowQ_ne (W : List (List (List Nat))) (x : List (List Nat)) : rowQ W x ≠ [46] := by
  unfold rowQ
  intro e
  by_cases h : (inter 47 (kids W x)).take 1 = [46]
  · rw [quo_yes h] at e
    have : inter 47 (kids W x) = [] := by simpa using e
    rw [this] at h; cases h
  · rw [quo_no h] at e
    rw [e] at h; exact h rfl
theorem kids_gn {W : List (List (List Nat))} (hg : ∀ x ∈ W, Good x) (x : List (List Nat)) : ∀ n ∈ kids W x, GN n := fun n hn => by
  obtain ⟨y, hy, h⟩ := kids_mem hn
  exact (hg y hy).gl n h
theorem spl_row {W : List (List (List Nat))} (hg : ∀ x ∈ W, Good x) (x : List (List Nat)) : ((spl 47 (unq (rowQ W x))).filter fun n => decide (n ≠ [])) = kids W x := by
  unfold rowQ
  rw [unq_quo]
  have hk := kids_gn hg x
  by_cases e : kids W x = []
  · rw [e]; rfl
  · rw [spl_inter 47 e fun n hn => (hk n hn).sl]
    exact List.filter_eq_self.mpr fun n hn => by simp [(hk n hn).ne]
theorem take_row {W : List (List (List Nat))} (c : Cl W) (hs : W.Pairwise (fun x y => wlt x y = true)) (hg : ∀ x ∈ W, Good x) {i : Nat} (h : i < W.length) :
    takeS (knw W i, i, false) (rowQ W W[i]) = (knw W (i + 1), i + 1, false) := by
  have hf := knw_far c hs h
  have hK : (knw W i).getD i [] = W[i] := by
    rw [List.getD_eq_getElem?_getD, List.getElem?_eq_getElem hf]
    exact (knw_prefix c hs i).getElem hf
  have : takeS (knw W i, i, false) (rowQ W W[i]) = (knw W i ++ hungs (knw W i) i (rowQ W W[i]), i + 1, false) := if_neg (by simp [rowQ_ne])
  rw [this, knw_succ W h]
  unfold hungs
  rw [spl_row hg, hK, chs_map]
theorem run_rows {W : List (List (List Nat))} (c : Cl W) (hs : W.Pairwise (fun x y => wlt x y = true)) (hg : ∀ x ∈ W, Good x) : ∀ i, i ≤ W.length → runS ([[]], 0, false) ((W.map (rowQ W)).take i) = (knw W i, i, false)
  | 0, _ => rfl
  | i + 1, h => by
    have ih := run_rows c hs hg i (by lia)
    have hi : i < W.length := by lia
    unfold runS at *
    rw [List.take_succ_eq_append_getElem (by simpa using hi), List.foldl_append, ih, List.getElem_map]
    exact take_row c hs hg hi
/-- the reader's end -/
theorem run_all {W : List (List (List Nat))} (c : Cl W) (hs : W.Pairwise (fun x y => wlt x y = true)) (hg : ∀ x ∈ W, Good x) : runS ([[]], 0, false) (W.map (rowQ W) ++ [[46], []]) = (W, W.length, true) := by
  have h := run_rows c hs hg W.length (Nat.le_refl _)
  rw [List.take_of_length_le (by simp), knw_all c hs] at h
  unfold runS at *
  rw [List.foldl_append, h]
  rfl
theorem knw_len {W : List (List (List Nat))} (c : Cl W) (hs : W.Pairwise (fun x y => wlt x y = true)) (i : Nat) : (knw W i).length ≤ W.length := (knw_prefix c hs i).length_le
/-- the side conditions of the reader -/
theorem run_ok {W : List (List (List Nat))} (c : Cl W) (hs : W.Pairwise (fun x y => wlt x y = true)) (hg : ∀ x ∈ W, Good x) (hn : W.length ≤ 60) (h3 : ∀ x ∈ W, x.length ≤ 3) :
    ∀ i (h : i < (W.map (rowQ W) ++ [[46], []]).length), StOk (runS ([[]], 0, false) ((W.map (rowQ W) ++ [[46], []]).take i)) (W.map (rowQ W) ++ [[46], []])[i] := by
  intro i h
  have hgl : ∀ j, ∀ x ∈ knw W j, GL x ∧ x.length ≤ 20 := fun j x hx => by
    have hw := (knw_prefix c hs j).subset hx
    exact ⟨(hg x hw).gl, by have := h3 x hw; lia⟩
  have hrl : ∀ x, (rowQ W x).length ≤ 900 := fun x => by
    have h1 := kids_len W x
    have h2 := inter_le 47 (B := 3) (fun n hn => (kids_gn hg x n hn).len)
    have h3 : (quo (inter 47 (kids W x))).length ≤ (inter 47 (kids W x)).length + 1 := by unfold quo; split <;> simp
    unfold rowQ
    lia
  by_cases hi : i < W.length
  · have e1 : (W.map (rowQ W) ++ [[46], []]).take i = (W.map (rowQ W)).take i := List.take_append_of_le_length (by simp; lia)
    have e2 : (W.map (rowQ W) ++ [[46], []])[i] = rowQ W W[i] := by rw [List.getElem_append_left (by simpa using hi), List.getElem_map]
    rw [e1, e2, run_rows c hs hg i (by lia)]
    refine ⟨by have := knw_len c hs i; show (knw W i).length ≤ 200; lia, hgl i, hrl _, fun _ _ => ⟨knw_far c hs hi, fun x hx hx0 => ?_⟩⟩
    have : x ∈ (spl 47 (unq (rowQ W W[i]))).filter fun n => decide (n ≠ []) := List.mem_filter.mpr ⟨hx, by simp [hx0]⟩
    rw [spl_row hg] at this
    exact kids_gn hg _ _ this
  · have hw : runS ([[]], 0, false) (W.map (rowQ W)) = (W, W.length, false) := by
      have z := run_rows c hs hg W.length (Nat.le_refl _)
      rw [List.take_of_length_le (by simp), knw_all c hs] at z
      exact z
    have hWgl : ∀ x ∈ W, GL x ∧ x.length ≤ 20 := fun x hx => ⟨(hg x hx).gl, by have := h3 x hx; lia⟩
    simp only [List.length_append, List.length_map, List.length_cons, List.length_nil] at h
    by_cases h0 : i = W.length
    · subst h0
      have e1 : (W.map (rowQ W) ++ [[46], []]).take W.length = W.map (rowQ W) := by
        rw [List.take_append_of_le_length (by simp), List.take_of_length_le (by simp)]
      have e2 : (W.map (rowQ W) ++ [[46], []])[W.length] = [46] := by rw [List.getElem_append_right (by simp)]; simp
      rw [e1, e2, hw]
      exact ⟨by show W.length ≤ 200; lia, hWgl, by simp, fun _ q => absurd rfl q⟩
    · have h1 : i = W.length + 1 := by lia
      subst h1
      have e1 : (W.map (rowQ W) ++ [[46], []]).take (W.length + 1) = W.map (rowQ W) ++ [[46]] := by
        rw [List.take_append, List.take_of_length_le (by simp)]; simp
      have e2 : (W.map (rowQ W) ++ [[46], []])[W.length + 1] = [] := by rw [List.getElem_append_right (by simp)]; simp
      have e3 : runS ([[]], 0, false) (W.map (rowQ W) ++ [[46]]) = (W, W.length, true) := by
        unfold runS at *
        rw [List.foldl_append, hw]; rfl
      rw [e1, e2, e3]
      exact ⟨by show W.length ≤ 200; lia, hWgl, by simp, fun q => by cases q⟩
end PartL4

section PartL5
theorem dots_line : ∀ (a : List Nat) (b : Bool) (r : List Nat), 10 ∉ a → dots b (a ++ 13 :: 10 :: r) = dots b a ++ 13 :: 10 :: dots true r
  | [], b, r, _ => by simp [dots]
  | x :: a, b, r, h => by
    have ih := dots_line a (x == 10) r fun z => h (.tail _ z)
    simp only [dots, List.cons_append, ih, List.append_assoc]
theorem crlf_app (a b : List Nat) : crlf (a ++ b) = crlf a ++ crlf b := by unfold crlf; rw [List.flatMap_append]
theorem dots_rows : ∀ (l : List (List Nat)), (∀ a ∈ l, 10 ∉ a) → dots true (crlf (l.map fun a => a ++ [10]).flatten) = (l.map fun a => quo a ++ [13, 10]).flatten
  | [], _ => rfl
  | a :: l, h => by
    have ih := dots_rows l fun x hx => h x (.tail _ hx)
    have ha := h a (.head _)
    simp only [List.map_cons, List.flatten_cons, crlf_app]
    rw [crlf_free ha, show crlf [10] = [13, 10] from rfl, List.append_assoc, List.cons_append, List.cons_append, List.nil_append, dots_line _ _ _ ha, ih]
    have hq := quo_eq ha
    rw [crlf_free ha] at hq
    rw [hq, List.append_assoc]; rfl
theorem row_nl {W : List (List (List Nat))} (hg : ∀ x ∈ W, Good x) (x : List (List Nat)) {c : Nat} (hc : c = 10 ∨ c = 13) : c ∉ inter 47 (kids W x) := by
  have hk := kids_gn hg x
  suffices ∀ l : List (List Nat), (∀ n ∈ l, GN n) → c ∉ inter 47 l from this _ hk
  intro l
  induction l with
  | nil => intro _ h; cases h
  | cons a l ih =>
    intro h
    have ha := h a (.head _)
    have h1 : c ∉ a := by
      rcases hc with e | e
      · subst e; exact ha.nl
      · subst e; exact ha.cr
    clear hg hk
    cases l with
    | nil => exact h1
    | cons b r =>
      show c ∉ a ++ 47 :: inter 47 (b :: r)
      have := ih fun n hn => h n (.tail _ hn)
      simp only [List.mem_append, List.mem_cons, not_or]
      exact ⟨h1, by lia, this⟩
/-- the mailed text and the told one are one -/
theorem mail_told {W : List (List (List Nat))} (hg : ∀ x ∈ W, Good x) : dots true (crlf (W.map fun p => inter 47 (kids W p) ++ [10]).flatten) ++ [46, 13, 10] = toldL W := by
  have := dots_rows (W.map fun p => inter 47 (kids W p)) fun a ha => by
    obtain ⟨x, _, rfl⟩ := List.mem_map.mp ha
    exact row_nl hg x (.inl rfl)
  rw [List.map_map, List.map_map] at this
  unfold toldL
  exact congrArg (· ++ [46, 13, 10]) this
end PartL5

section PartL6
open PySem.StrLaws PySem.Builtin.Str
noncomputable def inter2 : List (List Nat) → List Nat
  | [] => []
  | [a] => a
  | a :: b :: r => a ++ 13 :: 10 :: inter2 (b :: r)
theorem at2 {x : List Nat} {i : Nat} : At (T x) (T [13, 10]) (T x).length i ↔ (x.drop i).take 2 = [13, 10] := by
  unfold At
  rw [subAt_eq]
  simp only [T_len, beq_iff_eq, List.length_cons, List.length_nil]
  constructor
  · intro h; exact h.2
  · intro h
    refine ⟨?_, h⟩
    have := congrArg List.length h
    simp at this
    lia
theorem parts2 {x : List Nat} : ∀ (rows : List (List Nat)) (a : Nat) (cuts : List Nat) (f : Nat), rows ≠ [] → (∀ r ∈ rows, 13 ∉ r) → x.drop a = inter2 rows →
    ChainG (T x) (T [13, 10]) (T x).length a cuts f → (∀ k, f ≤ k → ¬ At (T x) (T [13, 10]) (T x).length k) → partsFrom (T x) 2 a cuts = rows.map T
  | [], _, _, _, h, _, _, _, _ => absurd rfl h
  | [r], a, [], f, _, h13, hx, hC, hn => by
    show [strSub (T x) a (T x).length] = [T r]
    refine congrArg (fun z => [z]) (str_ext ?_)
    rw [strSub_toList, T_len, List.take_of_length_le (by simp)]
    exact hx
  | [r], a, c :: cuts, f, _, h13, hx, hC, hn => by
    exfalso
    have h1 := at2.mp hC.2.1
    have h2 : x.drop c = (x.drop a).drop (c - a) := by rw [List.drop_drop]; congr 1; have := hC.1; lia
    rw [h2, hx] at h1
    have h3 : 13 ∈ (List.drop (c - a) (inter2 [r])).take 2 := by rw [h1]; exact .head _
    exact h13 r (.head _) (List.mem_of_mem_drop (List.mem_of_mem_take h3))
  | r :: b :: rs, a, [], f, _, h13, hx, hC, hn => by
    exfalso
    have e : f = a := hC
    subst e
    refine hn (f + r.length) (by lia) (at2.mpr ?_)
    rw [← List.drop_drop, hx]
    show ((r ++ 13 :: 10 :: inter2 (b :: rs)).drop r.length).take 2 = _
    rw [List.drop_left]; rfl
  | r :: b :: rs, a, c :: cuts, f, _, h13, hx, hC, hn => by
    have hx' : x.drop a = r ++ 13 :: 10 :: inter2 (b :: rs) := hx
    have h0 : At (T x) (T [13, 10]) (T x).length (a + r.length) := by
      refine at2.mpr ?_
      rw [← List.drop_drop, hx', List.drop_left]; rfl
    have hle : c ≤ a + r.length := by
      rcases Nat.lt_or_ge (a + r.length) c with h | h
      · exact absurd h0 (hC.2.2.1 _ (by lia) h)
      · exact h
    have hge : a + r.length ≤ c := by
      rcases Nat.lt_or_ge c (a + r.length) with h | h
      · exfalso
        have h1 := at2.mp hC.2.1
        have h2 : x.drop c = (x.drop a).drop (c - a) := by rw [List.drop_drop]; congr 1; have := hC.1; lia
        rw [h2, hx', List.drop_append_of_le_length (by have := hC.1; lia)] at h1
        have hne : r.drop (c - a) ≠ [] := by
          intro z
          have := congrArg List.length z
          simp at this
          have := hC.1
          lia
        obtain ⟨y, ys, hy⟩ := List.exists_cons_of_ne_nil hne
        rw [hy] at h1
        have : y = 13 := by simpa using (List.cons.inj h1).1
        subst this
        exact h13 r (.head _) (List.mem_of_mem_drop (by rw [hy]; exact .head _))
      · exact h
    have hc : c = a + r.length := by lia
    subst hc
    show strSub (T x) a (a + r.length) :: partsFrom (T x) 2 (a + r.length + 2) cuts = T r :: (b :: rs).map T
    refine congr (congrArg List.cons (str_ext ?_)) (parts2 (b :: rs) _ cuts f (by simp) (fun z hz => h13 z (.tail _ hz)) ?_ hC.2.2.2 hn)
    · rw [strSub_toList, Nat.add_sub_cancel_left]
      show (x.drop a).take r.length = r
      rw [hx', List.take_left]
    · rw [Nat.add_assoc, ← List.drop_drop, hx', ← List.drop_drop, List.drop_left]; rfl
/-- the text cut at CR LF -/
theorem split2 {x : List Nat} {rows : List (List Nat)} (hne : rows ≠ []) (h13 : ∀ r ∈ rows, 13 ∉ r) (hx : x = inter2 rows) (hl : 2 ≤ x.length) : Txt.split (T x) (T [13, 10]) = rows.map T := by
  obtain ⟨f, hG, hn⟩ := occ_tight (T x) (T [13, 10]) (by rw [T_len]; decide)
  have key := parts2 rows 0 _ f hne h13 (by rw [List.drop_zero]; exact hx) hG hn
  unfold Txt.split
  have hk : ¬ Builtin.Str.strKind (T x) < Builtin.Str.strKind (T [13, 10]) := by
    have : Builtin.Str.strKind (T [13, 10]) = 1 := by simp [Builtin.Str.strKind, T]
    rw [this]; unfold Builtin.Str.strKind; split
    · lia
    · split <;> lia
  rw [if_neg (by rw [Bool.or_eq_true, decide_eq_true_eq, decide_eq_true_eq, T_len, T_len]; rintro (h | h); · simp at h; lia
                 · exact hk h)]
  split
  · rename_i he
    rw [List.isEmpty_iff.mp he] at key
    rw [← key]
    show [T x] = [strSub (T x) 0 (T x).length]
    rw [sub_whole]
  · rw [partsBetween_eq]; exact key
theorem inter2_rows (l : List (List Nat)) : inter2 (l ++ [[46], []]) = (l.map fun a => a ++ [13, 10]).flatten ++ [46, 13, 10] := by
  induction l with
  | nil => rfl
  | cons a l ih =>
    obtain ⟨b, r, h⟩ : ∃ b r, l ++ [[46], []] = b :: r := List.exists_cons_of_ne_nil (by simp)
    rw [List.cons_append, h]
    show a ++ 13 :: 10 :: inter2 (b :: r) = _
    rw [← h, ih]
    simp
theorem told_inter (W : List (List (List Nat))) : toldL W = inter2 (W.map (rowQ W) ++ [[46], []]) := by
  rw [inter2_rows]
  unfold toldL rowQ
  rw [List.map_map]; rfl
theorem told_split {W : List (List (List Nat))} (hg : ∀ x ∈ W, Good x) : Txt.split (T (toldL W)) (T [13, 10]) = (W.map (rowQ W) ++ [[46], []]).map T := by
  refine split2 (by simp) (fun r hr => ?_) (told_inter W) ?_
  · rcases List.mem_append.mp hr with h | h
    · obtain ⟨x, _, rfl⟩ := List.mem_map.mp h
      have := row_nl hg x (.inr rfl)
      unfold rowQ quo
      split
      · simpa using this
      · exact this
    · simp at h; rcases h with rfl | rfl <;> decide
  · unfold toldL; simp
end PartL6

section PartL7
section
variable {w : World} {A : Around} {E : Value → Shared → Prop} {s : Shared}
theorem m_split2 {xl : List Nat} {rows : List (List Nat)} {t : Tok} {pos : Pos} {a : Sem Value} {Q : Value → Shared → Prop} (hx : xl.length ≤ 100000) (hsp : Txt.split (T xl) (T [13, 10]) = rows.map T)
    (h : wpAny (model P w) A a (fun v s₁ => SpL w (T [13, 10]) rows v Q s₁) E s) :
    MethodOnS P w A E "split" (.str (T xl) t) pos [(false, a)] Q s := by
  refine ⟨"str", _, PySem.F.plainAttrs_str, PySem.F.slot_str_split, PySem.F.type_str_split, typeIs_str _ _ _, (fun _ e => nomatch e),
    method1_meets PySem.F.slot_str_split PySem.F.entry_str_split (wpAny_mono h (fun v s₁ h₁ => ?_) fun _ _ e => e)⟩
  obtain ⟨u, rfl, C, hq⟩ := h₁
  refine ⟨typeIs_str _ _ _, PySem.F.args_str_split_2 _ _, ?_⟩
  have hlen : (T xl).length ≤ sizeLine := by rw [T_len]; simp [sizeLine_eq]; lia
  have hy : ((T [13, 10]).length == 0) = false := by rw [T_len]; rfl
  have fin : ∀ (ll : List (Str × Tok)) (k : Nat), ll.map (·.1) = Txt.split (T xl) (T [13, 10]) →
      Q (.ref s₁.heap.objs.size) { s₁ with toks := k, heap := s₁.heap.push { cls := .type "list", data := .seq (strValues ll).toArray } } := fun ll k e => by
    have C' := C.tok k
    exact mk_obj (o := lstO (strValues ll) 0) C' rfl rfl fun D s' hD h0 C2 => hq D _ s' ⟨ll, rfl, e.trans hsp⟩ hD h0 C2
  cases h1 : (decide ((T xl).length < (T [13, 10]).length) || decide (Builtin.Str.strKind (T xl) < Builtin.Str.strKind (T [13, 10])))
  · cases hf : (Builtin.Str.occurrences (T xl) (T [13, 10]) 0 (T xl).length ((T xl).length + 1)).isEmpty
    · have hn : (Builtin.Str.partsBetween (T xl) (Builtin.Str.occurrences (T xl) (T [13, 10]) 0 (T xl).length ((T xl).length + 1)) (T [13, 10]).length).length ≤ sizeLine := by
        rw [length_partsBetween]
        have := PySem.StrLaws.occ_length_le (T xl) (T [13, 10]) 0 (T xl).length ((T xl).length + 1)
        rw [T_len] at this ⊢
        rw [sizeLine_eq]; lia
      refine ⟨_, meets_str_split_sep (T xl) (T [13, 10]) t u h1 hy hf hlen hn, ?_⟩
      show wants Q E _ { s₁ with toks := _, heap := s₁.heap.push { cls := .type "list", data := .seq (strsFrom s₁.toks (Builtin.Str.partsBetween (T xl) (Builtin.Str.occurrences (T xl) (T [13, 10]) 0 (T xl).length ((T xl).length + 1)) (T [13, 10]).length)).toArray } }
      rw [strsFrom_eq]
      exact fin (numbered s₁.toks _) _ ((numbered_texts _ _).trans ((if_neg (ne_true_of_eq_false h1)).trans (if_neg (ne_true_of_eq_false hf))).symm)
    · exact ⟨_, meets_str_split_not_found (T xl) (T [13, 10]) t u h1 hy hf, fin [(T xl, t)] _ ((if_neg (ne_true_of_eq_false h1)).trans (if_pos hf)).symm⟩
  · exact ⟨_, meets_str_split_cannot_occur (T xl) (T [13, 10]) t u h1, fin [(T xl, t)] _ (if_pos h1).symm⟩
end
end PartL7

section PartKL
open PySem.W.X
/-- what a run has made and changed -/
structure Lg (h₀ h : Heap) (chg news : List (Addr × Obj)) : Prop where
  keep : ∀ b o, h₀.get? b = some o → (∀ p ∈ chg, p.1 ≠ b) → h.get? b = some o
  ch : ∀ p ∈ chg, h.get? p.1 = some p.2 ∧ ∃ o, h₀.get? p.1 = some o
  nw : ∀ p ∈ news, h.get? p.1 = some p.2 ∧ h₀.get? p.1 = none
  nd : (news.map (·.1)).Nodup
section
variable {h₀ h : Heap} {chg news : List (Addr × Obj)}
theorem Lg.start (h : Heap) : Lg h h [] [] := ⟨fun _ _ e _ => e, fun _ hp => (nomatch hp), fun _ hp => (nomatch hp), List.nodup_nil⟩
theorem Lg.at (D : Lg h₀ h chg news) (i : Nat) {a : Addr} {o : Obj} (hi : news[i]? = some (a, o)) : h.get? a = some o := (D.nw _ (List.mem_of_getElem? hi)).1
theorem Lg.atC (D : Lg h₀ h chg news) (i : Nat) {a : Addr} {o : Obj} (hi : chg[i]? = some (a, o)) : h.get? a = some o := (D.ch _ (List.mem_of_getElem? hi)).1
theorem Lg.old (D : Lg h₀ h chg news) {a : Addr} {o : Obj} (e : h₀.get? a = some o) (q : (chg.all fun p => !(Nat.beq p.1 a)) = true) : h.get? a = some o :=
  D.keep a o e fun p hp z => by
    have := List.all_eq_true.mp q p hp
    rw [z, Nat.beq_refl] at this; cases this
theorem Lg.ne (D : Lg h₀ h chg news) (i j : Nat) {a b : Addr} {oa ob : Obj} (hi : news[i]? = some (a, oa)) (hj : news[j]? = some (b, ob)) (ij : Nat.beq i j = false) : a ≠ b := by
  intro e
  have q1 : (news.map (·.1))[i]? = some a := by rw [List.getElem?_map, hi]; rfl
  have q2 : (news.map (·.1))[j]? = some b := by rw [List.getElem?_map, hj]; rfl
  obtain ⟨l1, e1⟩ := List.getElem?_eq_some_iff.mp q1
  obtain ⟨l2, e2⟩ := List.getElem?_eq_some_iff.mp q2
  have hij : i ≠ j := fun z => by rw [z, Nat.beq_refl] at ij; cases ij
  have pw := List.pairwise_iff_getElem.mp D.nd
  rcases Nat.lt_or_gt_of_ne hij with z | z
  · exact pw i j l1 l2 z (by rw [e1, e2, e])
  · exact pw j i l2 l1 z (by rw [e1, e2, e])
theorem Lg.ne_old (D : Lg h₀ h chg news) (i : Nat) {a b : Addr} {oa ob : Obj} (hi : news[i]? = some (a, oa)) (e : h₀.get? b = some ob) : a ≠ b := by
  intro z
  have := (D.nw _ (List.mem_of_getElem? hi)).2
  rw [z, e] at this; cases this
theorem Lg.thereO (D : Lg h₀ h chg news) {b : Addr} {o : Obj} (e : h₀.get? b = some o) : ∃ o', h.get? b = some o' := by
  by_cases q : ∀ p ∈ chg, p.1 ≠ b
  · exact ⟨o, D.keep b o e q⟩
  · have : ∃ p ∈ chg, p.1 = b := Classical.byContradiction fun w => q fun p hp z => w ⟨p, hp, z⟩
    obtain ⟨p, hp, rfl⟩ := this
    exact ⟨_, (D.ch p hp).1⟩
theorem Lg.add (D : Lg h₀ h chg news) {h' : Heap} {more : List (Addr × Obj)} (k : ∀ b o, h.get? b = some o → h'.get? b = some o) (hm : ∀ p ∈ more, h'.get? p.1 = some p.2 ∧ h.get? p.1 = none) (nd : (more.map (·.1)).Nodup) : Lg h₀ h' chg (more ++ news) := by
  refine ⟨fun b o e q => k _ _ (D.keep b o e q), fun p hp => ⟨k _ _ (D.ch p hp).1, (D.ch p hp).2⟩, fun p hp => ?_, ?_⟩
  · rcases List.mem_append.mp hp with hp | hp
    · refine ⟨(hm p hp).1, ?_⟩
      cases q : h₀.get? p.1 with
      | none => rfl
      | some o => obtain ⟨o', e'⟩ := D.thereO q; rw [(hm p hp).2] at e'; cases e'
    · exact ⟨k _ _ (D.nw p hp).1, (D.nw p hp).2⟩
  · rw [List.map_append]
    refine List.nodup_append.mpr ⟨nd, D.nd, fun a ha b hb e => ?_⟩
    obtain ⟨p, hp, rfl⟩ := List.mem_map.mp ha
    obtain ⟨q, hq, rfl⟩ := List.mem_map.mp hb
    have := (hm p hp).2
    rw [e, (D.nw q hq).1] at this; cases this
theorem Lg.alloc (D : Lg h₀ h chg news) {o : Obj} (hf : o.isFreed = false) : Lg h₀ (h.push o) chg ((h.objs.size, o) :: news) :=
  D.add (more := [(h.objs.size, o)]) (fun b x e => Heap.get?_push_of_some _ e) (fun p hp => by
    rw [List.mem_singleton.mp hp]
    exact ⟨Heap.get?_push_size _ hf, size_none _⟩) (by simp)
theorem Lg.update (D : Lg h₀ h chg news) {i : Nat} {a : Addr} {o : Obj} {f : Obj → Obj} (hi : news[i]? = some (a, o)) (hf : (f o).isFreed = false) : Lg h₀ (h.update a f) chg (news.set i (a, f o)) := by
  have ho := D.at i hi
  have hs : Heap.SameBut a h (h.update a f) := Heap.SameBut.update ..
  have ge : (h.update a f).get? a = some (f o) := by first | exact Heap.get?_update_self f ho hf | exact Heap.get?_update_self _ ho hf
  have ha0 := (D.nw _ (List.mem_of_getElem? hi)).2
  have em : (news.set i (a, f o)).map (·.1) = news.map (·.1) := by
    rw [List.map_set]
    exact set_same (by rw [List.getElem?_map, hi]; rfl)
  refine ⟨fun b x e q => (hs.2 b fun z => by rw [z, ha0] at e; cases e).trans (D.keep b x e q), fun p hp => ⟨(hs.2 _ fun z => ?_).trans (D.ch p hp).1, (D.ch p hp).2⟩, fun p hp => ?_, by rw [em]; exact D.nd⟩
  · obtain ⟨x, hx⟩ := (D.ch p hp).2
    rw [z, ha0] at hx; cases hx
  · by_cases hpa : p.1 = a
    · have hl := (List.getElem?_eq_some_iff.mp hi).1
      have hx : (a, f o) ∈ news.set i (a, f o) := List.mem_set hl _
      have : p = (a, f o) := key_unique (by rw [em]; exact D.nd) hp hx hpa
      subst this
      exact ⟨ge, ha0⟩
    · rcases List.mem_or_eq_of_mem_set hp with hp | rfl
      · exact ⟨(hs.2 _ hpa).trans (D.nw p hp).1, (D.nw p hp).2⟩
      · exact absurd rfl hpa
theorem Lg.change (D : Lg h₀ h chg news) {a : Addr} {o : Obj} {f : Obj → Obj} (e : h₀.get? a = some o) (q : (chg.all fun p => !(Nat.beq p.1 a)) = true) (hf : (f o).isFreed = false) : Lg h₀ (h.update a f) ((a, f o) :: chg) news := by
  have ho := D.old e q
  have hs : Heap.SameBut a h (h.update a f) := Heap.SameBut.update ..
  have ge : (h.update a f).get? a = some (f o) := by first | exact Heap.get?_update_self f ho hf | exact Heap.get?_update_self _ ho hf
  have qne : ∀ p ∈ chg, p.1 ≠ a := fun p hp z => by
    have := List.all_eq_true.mp q p hp
    rw [z, Nat.beq_refl] at this; cases this
  refine ⟨fun b x e' q' => (hs.2 b fun z => q' (a, f o) (.head _) z.symm).trans (D.keep b x e' fun p hp => q' p (.tail _ hp)), fun p hp => ?_, fun p hp => ⟨(hs.2 _ fun z => ?_).trans (D.nw p hp).1, (D.nw p hp).2⟩, D.nd⟩
  · rcases List.mem_cons.mp hp with rfl | hp
    · exact ⟨ge, o, e⟩
    · exact ⟨(hs.2 _ (qne p hp)).trans (D.ch p hp).1, (D.ch p hp).2⟩
  · have := (D.nw p hp).2
    rw [z, e] at this; cases this
end
section
variable {α : Type} {w : World} {A : Around} {Q : α → Shared → Prop} {E : Value → Shared → Prop} {h₀ h : Heap} {chg news : List (Addr × Obj)} {g : Array GenState} {d : Drawn} {t : Nat} {os : OsState}
theorem za_load {a : Addr} {q : Option Value} {k : Obj → Sem α} {o : Obj} (ho : h.get? a = some o) (x : wpAny (model P w) A (k o) Q E ⟨h, g, d, t, os⟩) : wpAny (model P w) A (.load a q k) Q E ⟨h, g, d, t, os⟩ := x_load ho x
theorem za_fresh {k : Tok → Sem α} (x : wpAny (model P w) A (k t) Q E ⟨h, g, d, t + 1, os⟩) : wpAny (model P w) A (.fresh k) Q E ⟨h, g, d, t, os⟩ := x_fresh x
theorem za_alloc {o : Obj} {k : Addr → Sem α} (D : Lg h₀ h chg news) (hf : o.isFreed = false) (x : ∀ a h', Lg h₀ h' chg ((a, o) :: news) → wpAny (model P w) A (k a) Q E ⟨h', g, d, t, os⟩) : wpAny (model P w) A (.alloc o k) Q E ⟨h, g, d, t, os⟩ :=
  wpAny_bind (m := alloc o) (f := k) (wpAny_alloc (x _ _ (D.alloc hf)))
theorem za_update {a : Addr} {q : Option Value} {f : Obj → Obj} {k : Unit → Sem α} {o : Obj} (D : Lg h₀ h chg news) (i : Nat) (hi : news[i]? = some (a, o)) (hf : (f o).isFreed = false) (x : ∀ h', Lg h₀ h' chg (news.set i (a, f o)) → wpAny (model P w) A (k ()) Q E ⟨h', g, d, t, os⟩) :
    wpAny (model P w) A (.update a q f k) Q E ⟨h, g, d, t, os⟩ :=
  wpAny_bind (m := updatePart a q f) (f := k) (wpAny_updatePart (D.at i hi) (x _ (D.update hi hf)))
theorem za_change {a : Addr} {q : Option Value} {f : Obj → Obj} {k : Unit → Sem α} {o : Obj} (D : Lg h₀ h chg news) (e : h₀.get? a = some o) (hq : (chg.all fun p => !(Nat.beq p.1 a)) = true) (hf : (f o).isFreed = false) (x : ∀ h', Lg h₀ h' ((a, f o) :: chg) news → wpAny (model P w) A (k ()) Q E ⟨h', g, d, t, os⟩) :
    wpAny (model P w) A (.update a q f k) Q E ⟨h, g, d, t, os⟩ :=
  wpAny_bind (m := updatePart a q f) (f := k) (wpAny_updatePart (D.old e hq) (x _ (D.change e hq hf)))
end
section
variable {α β : Type} {M : Model} {A : Around} {Q : α → Shared → Prop} {E : Value → Shared → Prop} {s : Shared}
theorem zi_t {c : Prop} [Decidable c] {x y : Sem α} (hc : c) (h : wpAny M A x Q E s) : wpAny M A (if c then x else y) Q E s := by rw [if_pos hc]; exact h
theorem zi_f {c : Prop} [Decidable c] {x y : Sem α} (hc : ¬ c) (h : wpAny M A y Q E s) : wpAny M A (if c then x else y) Q E s := by rw [if_neg hc]; exact h
theorem zf_nil {b : α} {f : β → α → Sem (ForInStep α)} (h : Q b s) : wpAny M A (forIn ([] : List β) b f) Q E s := by rw [List.forIn_nil]; exact wpAny_pure h
theorem zf_cons {b : α} {x : β} {r : List β} {f : β → α → Sem (ForInStep α)} (h : wpAny M A (f x b >>= fun q => match q with | .done b => pure b | .yield b => forIn r b f) Q E s) : wpAny M A (forIn (x :: r) b f) Q E s := by rw [List.forIn_cons]; exact h
end
section
variable {w : World} {A : Around} {E : Value → Shared → Prop} {s : Shared} {env : Env}
theorem nz_g {x : Str} {pos : Pos} {v : Value} {Q : Value → Shared → Prop} (k : (K2 w.params).In s.heap) (hg : env.globals = 3) (hk : env.scope.kind = .function) (hx : env.kindOf x = some .globalImplicit) (hdb : (x == ("__debug__" : Str)) = false)
    (hv : nsIn (K2 w.params) 3 x = some (some v)) (h : Q v s) : wpAny (model P w) A (eval (.Name x pos) env) Q E s := by
  refine Calls.Name_function_global hk hx ?_ hdb
  unfold loadGlobal
  refine wpAny_bind ?_
  rw [hg]
  exact (looks_nsIn k hv).here (wpAny_pure h)
theorem nz_b {x : Str} {pos : Pos} {v : Value} {Q : Value → Shared → Prop} (k : (K2 w.params).In s.heap) (hg : env.globals = 3) (hb : env.builtins = 0) (hk : env.scope.kind = .function) (hx : env.kindOf x = some .globalImplicit) (hdb : (x == ("__debug__" : Str)) = false)
    (hv0 : nsIn (K2 w.params) 3 x = some none) (hv : nsIn (K2 w.params) 0 x = some (some v)) (h : Q v s) : wpAny (model P w) A (eval (.Name x pos) env) Q E s := by
  refine Calls.Name_function_global hk hx ?_ hdb
  unfold loadGlobal
  refine wpAny_bind ?_
  rw [hg]
  refine (looks_nsIn k hv0).here ?_
  refine wpAny_bind ?_
  rw [hb]
  exact (looks_nsIn k hv).here (wpAny_pure h)
theorem noLimitL {h₀ h : Heap} {chg news : List (Addr × Obj)} (kin : (hd.heap_39 w.params).In h₀) (D : Lg h₀ h chg news) (ha : (chg.all fun p => !(Nat.beq p.1 cStatics)) = true) : h.NoLimit := by
  have key : ∃ c d es n sl, (hd.heap_39 w.params).lookup cStatics = some ⟨c, d, .dict es n, sl⟩ ∧ keysStr es.toList = true ∧ nsFind es "sys.recursionlimit" = none :=
    ⟨_, _, _, _, _, rfl, rfl, rfl⟩
  obtain ⟨c, d, es, n, sl, e1, e2, e3⟩ := key
  exact ⟨fun x => nsFind es x, ⟨_, es, n, D.old (kin _ _ e1) ha, rfl, fun e he => keysStr_all e2 e (Array.mem_toList_iff.mpr he), fun _ => rfl⟩, e3⟩
theorem Lg.k2 {h₀ h : Heap} {chg news : List (Addr × Obj)} (kin : (hd.heap_39 w.params).In h₀) (D : Lg h₀ h chg news) (ha : ∀ p ∈ chg, p.1 = 40) : (K2 w.params).In h :=
  fun a o e => D.keep a o (kin _ _ (look_filter 40 _ a o e).1) fun p hp z => (look_filter 40 _ a o e).2 (z.symm.trans (ha p hp))
end
end PartKL

section PartKP
open PySem.W.X
theorem ca {α : Type} {w : World} {A : Around} {E : Value → Shared → Prop} {s : Shared} {Q : α → Shared → Prop} {c : Code} {hd : Option Value} {g : Bool} {l : List Value} {k : Result → Sem α}
    (h : wpAny (model P w) A (Sem.call c hd g l Sem.pure) (fun r s' => wpAny (model P w) A (k r) Q E s') E s) : wpAny (model P w) A (Sem.call c hd g l k) Q E s :=
  wpAny_bind (m := Sem.call c hd g l Sem.pure) (f := k) h
theorem mem_keep {h₀ h : Heap} {news : List (Addr × Obj)} (D : Mem h₀ h [] news) : ∀ b o, h₀.get? b = some o → h.get? b = some o := fun b o e => D.keep b o e (by simp [X.away])
noncomputable abbrev prepO : Obj := { cls := .type "builtin_function_or_method", data := .fields #[.builtin "type.__prepare__", .type "type"] }
section
local macro_rules | `(tactic| x_close) => `(tactic| (refine hQ _ _ _ (mem_keep (by assumption)) ((Mem.at (by assumption) 0 _ _ rfl).trans (congrArg some (by kernel_rfl))) ((Mem.nw (by assumption) _ (.head _)).2)))
theorem prep1 {w : World} {A : Around} {k : Nat} {s : Shared} {t : Tok} {Q : Result → Shared → Prop} {E : Value → Shared → Prop} (o : Ok (k+1) A) (kin : (K2 w.params).In s.heap)
    (hQ : ∀ a h t', (∀ b o, s.heap.get? b = some o → h.get? b = some o) → h.get? a = some prepO → s.heap.get? a = none → Q (.ok (.ret (.ref a))) { s with heap := h, toks := t' }) :
    wpAny (model P w) A (Sem.call (Code.call (.builtin "type.__getattribute__") ⟨[.type "type", .str "__prepare__" t], []⟩) none true [] Sem.pure) Q E s := by
  refine low o ?_
  x_run
theorem prep2 {w : World} {A : Around} {k : Nat} {s : Shared} {a b : Addr} {t : Tok} {Q : Result → Shared → Prop} {E : Value → Shared → Prop} (o : Ok (k+1) A) (kin : (K2 w.params).In s.heap) (ha : s.heap.get? a = some prepO)
    (hQ : ∀ a h t', (∀ b o, s.heap.get? b = some o → h.get? b = some o) → h.get? a = some { cls := .type "dict", data := .dict #[] } → s.heap.get? a = none → Q (.ok (.ret (.ref a))) { s with heap := h, toks := t' }) :
    wpAny (model P w) A (Sem.call (Code.call (.ref a) ⟨[.str "K" t, .ref b], []⟩) none false [] Sem.pure) Q E s := by
  have ha' : s.heap.get? a = some { cls := .type "builtin_function_or_method", data := .fields #[.builtin "type.__prepare__", .type "type"] } := ha
  clear ha
  refine low o ?_
  x_run
end
theorem typeOf_obj {M : Model} {A : Around} {E : Value → Shared → Prop} {s : Shared} {Q : Value → Shared → Prop} (h : Q (.type "type") s) : wpAny M A (typeOf (.type "object")) Q E s :=
  wpAny_of_eq (a := Value.type "type") (by kernel_rfl) h
section
variable {h₀ h h' : Heap} {chg news : List (Addr × Obj)}
theorem Lg.one (D : Lg h₀ h chg news) {a : Addr} {o : Obj} (k : ∀ b o, h.get? b = some o → h'.get? b = some o) (e : h'.get? a = some o) (n : h.get? a = none) : Lg h₀ h' chg ((a, o) :: news) :=
  D.add (more := [(a, o)]) k (fun p hp => by rw [List.mem_singleton.mp hp]; exact ⟨e, n⟩) (by simp)
end
end PartKP

section PartKN
open PySem.W.X
noncomputable abbrev dO (l : List DictEntry) (n : Nat) : Obj := { cls := .type "dict", data := .dict l.toArray n }
noncomputable def newKey (name : Str) : List DictEntry → Bool
  | [] => true
  | e :: r => (match e.key with | .str x _ => !(decide (x = name)) | _ => false) && newKey name r
theorem newKey_all {name : Str} : ∀ {l : List DictEntry}, newKey name l = true → (∀ e ∈ l, ∃ n t, e.key = .str n t) ∧ l.any (·.key.isStr name) = false
  | [], _ => ⟨fun _ h => (nomatch h), rfl⟩
  | e :: r, h => by
    simp only [newKey, Bool.and_eq_true] at h
    have ih := newKey_all h.2
    have h1 := h.1
    split at h1
    · rename_i x t q
      refine ⟨fun e' m => ?_, ?_⟩
      · rcases List.mem_cons.mp m with rfl | m
        · exact ⟨_, _, q⟩
        · exact ih.1 e' m
      · rw [List.any_cons, ih.2, q]
        have : ¬ x = name := by simpa using h1
        simp [Value.isStr, this]
    · cases h1
section
variable {w : World} {A : Around} {E : Value → Shared → Prop} {h₀ h : Heap} {chg news : List (Addr × Obj)} {g : Array GenState} {d : Drawn} {t : Nat} {os : OsState}
theorem za_nsAdd {a : Addr} {name : Str} {v : Value} {l : List DictEntry} {n : Nat} {Q : Unit → Shared → Prop} (D : Lg h₀ h chg news) (i : Nat) (hi : news[i]? = some (a, dO l n)) (hk : newKey name l = true)
    (x : ∀ hsh tk h' t', Lg h₀ h' chg (news.set i (a, dO (l ++ [⟨hsh, .str name tk, v⟩]) (n + 1))) → Q () ⟨h', g, d, t', os⟩) : wpAny (model P w) A (nsSet a name v) Q E ⟨h, g, d, t, os⟩ := by
  obtain ⟨hs, hany⟩ := newKey_all hk
  have ho := D.at i hi
  intro Γ p hΓ
  simp only [nsSet, strHash, Sem.wp_bind', Sem.wp_cmd_ask, Sem.wp_pure', Sem.wp_cmd_mkText]
  rw [Sem.wp_loadPart_of _ _ _ p _ _ ho]
  have hr : (l.toArray).any (·.refKey) = false := by
    rw [Array.any_eq_false']; intro e he; obtain ⟨n, t, h⟩ := hs e (by simpa using he); simp [DictEntry.refKey, h]
  simp only [aRefKeyMayBeTheName_eq, aRefKeyMayBeTheNameByArray, hr, Bool.and_false, Bool.false_eq_true, if_false, Sem.wp_cmd_updatePart]
  refine ⟨by rw [ho]; rfl, ?_⟩
  have e := fun hsh key => putName_eq name hsh key v (.type "dict") none l n #[]
  rw [hany] at e
  have pi : ∀ hsh key, PySem.putIn (·.key.isStr name) (fun e => { e with val := v }) ⟨hsh, key, v⟩ l = l ++ [⟨hsh, key, v⟩] := fun hsh key => by
    unfold PySem.putIn
    have : l.findIdx? (·.key.isStr name) = none := by
      rw [List.findIdx?_eq_none_iff]
      intro x hx
      have := List.any_eq_false.mp hany x hx
      simpa using this
    rw [this]
  have D2 := D.update (i := i) (f := Obj.putName name (if name.cps.isEmpty then 0 else reduceHash (w.params.strHash name.cps)) (.str name t) v) hi (by rw [e]; rfl)
  rw [e, pi] at D2
  exact x _ _ _ _ D2
noncomputable def pick : List DictEntry → Str → Option Value
  | [], _ => none
  | ⟨_, .str x _, v⟩ :: r, n => if x = n then some v else pick r n
  | _ :: r, n => pick r n
theorem pick_eq (n : Str) : ∀ {l : List DictEntry}, keysStr l = true → nsFind l.toArray n = pick l n
  | [], _ => rfl
  | e :: r, h => by
    obtain ⟨hs, k, v⟩ := e
    simp only [keysStr, Bool.and_eq_true] at h
    have ih := pick_eq n h.2
    have h1 := h.1
    split at h1
    · rename_i x t
      unfold pick
      rw [← ih]
      unfold nsFind findBy
      rw [List.find?_toArray, List.find?_toArray, List.find?_cons]
      by_cases e : x = n
      · have : (Value.str x t).isStr n = true := by simp [Value.isStr, e]
        rw [if_pos e]
        simp [this]
      · have : (Value.str x t).isStr n = false := by simp [Value.isStr, e]
        rw [if_neg e]
        simp [this]
    · cases h1
theorem za_nsGet {a : Addr} {name : Str} {l : List DictEntry} {n : Nat} {c : Value} {r : Option Value} {Q : Option Value → Shared → Prop} (D : Lg h₀ h chg news) (i : Nat) (hi : news[i]? = some (a, { cls := c, data := .dict l.toArray n })) (hk : keysStr l = true)
    (hr : pick l name = r) (x : Q r ⟨h, g, d, t, os⟩) : wpAny (model P w) A (nsGet a name) Q E ⟨h, g, d, t, os⟩ := by
  refine wpAny_nsGet (m := fun x => nsFind l.toArray x) ⟨_, _, n, D.at i hi, rfl, fun e he => keysStr_all hk e (by simpa using he), fun _ => rfl⟩ ?_
  show Q (nsFind l.toArray name) _
  rw [pick_eq name hk, hr]; exact x
end
section
variable {w : World} {A : Around} {E : Value → Shared → Prop} {s : Shared}
theorem za_body {stmts : List Stmt} {env : Env} {Q : Flow → Shared → Prop} (h : ∀ A2 : Around, wpAny (model P w) A2 (blockStart stmts env) (fun _ s1 => wpAny (model P w) A2 (execs stmts env) Q (fun _ _ => False) s1) (fun _ _ => False) s) :
    wpAny (model P w) A (run (.body stmts env)) Q E s := by
  refine wpAny_run (codeAny_of_tree ?_)
  show wpAny _ _ (do blockStart stmts env; return Fin.done (← (execs stmts env).onRaise (leaving env))) _ _ _
  refine wpAny_bind (wpAny_mono (h _) (fun _ s1 h1 => ?_) fun _ _ q => q.elim)
  refine wpAny_bind (wpAny_onRaise (wpAny_mono h1 (fun f s2 h2 => ?_) fun _ _ q => q.elim))
  exact wpAny_pure h2
end
section
variable {w : World} {A : Around} {E : Value → Shared → Prop} {h₀ h : Heap} {chg news : List (Addr × Obj)} {g : Array GenState} {d : Drawn} {t : Nat} {os : OsState}
theorem za_nsHead {a : Addr} {name : Str} {v v0 : Value} {hs0 : Int} {tk0 : Tok} {l : List DictEntry} {n : Nat} {Q : Unit → Shared → Prop} (D : Lg h₀ h chg news) (i : Nat) (hi : news[i]? = some (a, dO (⟨hs0, .str name tk0, v0⟩ :: l) n)) (hk : keysStr l = true)
    (x : ∀ h' t', Lg h₀ h' chg (news.set i (a, dO (⟨hs0, .str name tk0, v⟩ :: l) n)) → Q () ⟨h', g, d, t', os⟩) : wpAny (model P w) A (nsSet a name v) Q E ⟨h, g, d, t, os⟩ := by
  have hs : ∀ e ∈ (⟨hs0, .str name tk0, v0⟩ :: l : List DictEntry), ∃ n t, e.key = .str n t := fun e he => by
    rcases List.mem_cons.mp he with rfl | he
    · exact ⟨_, _, rfl⟩
    · exact keysStr_all hk e he
  have ho := D.at i hi
  intro Γ p hΓ
  simp only [nsSet, strHash, Sem.wp_bind', Sem.wp_cmd_ask, Sem.wp_pure', Sem.wp_cmd_mkText]
  rw [Sem.wp_loadPart_of _ _ _ p _ _ ho]
  have hr : ((⟨hs0, .str name tk0, v0⟩ :: l : List DictEntry).toArray).any (·.refKey) = false := by
    rw [Array.any_eq_false']; intro e he; obtain ⟨n, t, h⟩ := hs e (by simpa using he); simp [DictEntry.refKey, h]
  simp only [aRefKeyMayBeTheName_eq, aRefKeyMayBeTheNameByArray, hr, Bool.and_false, Bool.false_eq_true, if_false, Sem.wp_cmd_updatePart]
  refine ⟨by rw [ho]; rfl, ?_⟩
  have e := fun hsh key => putName_eq name hsh key v (.type "dict") none (⟨hs0, .str name tk0, v0⟩ :: l) n #[]
  have hany : (⟨hs0, .str name tk0, v0⟩ :: l : List DictEntry).any (·.key.isStr name) = true := by simp [Value.isStr]
  rw [hany] at e
  have pi : ∀ hsh key, PySem.putIn (·.key.isStr name) (fun e => { e with val := v }) ⟨hsh, key, v⟩ (⟨hs0, .str name tk0, v0⟩ :: l) = ⟨hs0, .str name tk0, v⟩ :: l := fun hsh key => by
    unfold PySem.putIn
    have : (⟨hs0, .str name tk0, v0⟩ :: l : List DictEntry).findIdx? (·.key.isStr name) = some 0 := by
      rw [List.findIdx?_cons]; simp [Value.isStr]
    rw [this]; rfl
  have D2 := D.update (i := i) (f := Obj.putName name (if name.cps.isEmpty then 0 else reduceHash (w.params.strHash name.cps)) (.str name t) v) hi (by rw [e]; rfl)
  rw [e, pi] at D2
  exact x _ _ D2
end
noncomputable abbrev tabO (l : List Value) : Obj := { cls := .none, data := .fields l.toArray }
section
variable {w : World} {A : Around} {E : Value → Shared → Prop} {h₀ h : Heap} {chg news : List (Addr × Obj)} {g : Array GenState} {d : Drawn} {t : Nat} {os : OsState}
theorem za_tab {a : Addr} {pos : Pos} {x y z : Value} {l : List Value} {Q : Unit → Shared → Prop} (D : Lg h₀ h chg news) (i : Nat) (hi : news[i]? = some (a, tabO l)) (hn : codeAmong pos l = none)
    (hx : ∀ h', Lg h₀ h' chg (news.set i (a, tabO (l ++ [x, y, z]))) → Q () ⟨h', g, d, t, os⟩) :
    wpAny (model P w) A (updateFieldsOfTheText a fun vs => if (codeAmong pos vs.toList).isSome = true then vs else vs ++ #[x, y, z]) Q E ⟨h, g, d, t, os⟩ := by
  refine wpAny_updateFieldsOfTheText (D.at i hi) rfl ?_
  have e : Obj.mapFields (fun vs => if (codeAmong pos vs.toList).isSome = true then vs else vs ++ #[x, y, z]) (tabO l) = tabO (l ++ [x, y, z]) := by
    have h1 : (codeAmong pos l.toArray.toList) = none := by simpa using hn
    show ({ cls := .none, data := .fields (if (codeAmong pos l.toArray.toList).isSome = true then l.toArray else l.toArray ++ #[x, y, z]) } : Obj) = _
    rw [h1]
    simp
  have D2 := D.update (i := i) (f := Obj.mapFields (fun vs => if (codeAmong pos vs.toList).isSome = true then vs else vs ++ #[x, y, z])) hi (by rw [e]; rfl)
  rw [e] at D2
  exact hx _ D2
end
theorem zb {α β : Type} {M : Model} {A : Around} {Q : α → Shared → Prop} {E : Value → Shared → Prop} {s : Shared} {x : Sem β} {f : β → Sem α} (h : wpAny M A x (fun a s' => wpAny M A (f a) Q E s') E s) : wpAny M A (x.bind f) Q E s := wpAny_bind (m := x) (f := f) h
theorem mro_type : mroOf (.type "type") = pure [.type "type", .type "object"] := by rw [mroOf_type]; kernel_rfl
theorem look_type_new : typeLookup (.type "type") "__new__" = pure (some (.builtin "type.__new__")) := by rw [typeLookup_type, builtinLookup_eq_fast]; kernel_rfl
theorem made_type : Bind.madeBy (.type "type") = pure (some "type.__new__") := madeBy_type mro_type look_type_new (by decide +kernel)
theorem check_type3 (a b c : Value) : checkTypeCall "type" ⟨[a, b, c], []⟩ = pure () := by kernel_rfl
theorem check_type_new (a b c : Value) : checkBuiltinCall "type.__new__" ⟨[.type "type", a, b, c], []⟩ = pure () := by kernel_rfl
theorem entry_type_new : entryFor table "type.__new__" = some Builtin.«type.__new__» := entryFor_of_tree (by kernel_rfl)
end PartKN

section PartKF
open PySem.Builtin PySem.W.X
theorem sub_tuple : isSubtype (.type "tuple") (.type "tuple") = pure true := by kernel_rfl
theorem sub_dict : isSubtype (.type "dict") (.type "dict") = pure true := by kernel_rfl
theorem sub_type : isSubtype (.type "type") (.type "type") = pure true := by kernel_rfl
theorem turned_obj : notOverATurnedClass [.type "object"] = pure () := by kernel_rfl
theorem ext_obj : extendedBase [.type "object"] = pure (.type "object") := by kernel_rfl
theorem best_obj : Slots.bestBase [.type "object"] = pure (.type "object") := by kernel_rfl
theorem slotn_obj : Slots.slotNamesOf (.type "object") = pure [] := by kernel_rfl
theorem gdict_obj : Slots.givesDict (.type "object") = pure false := by kernel_rfl
theorem gweak_obj : Slots.givesWeak (.type "object") = pure false := by kernel_rfl
theorem var_obj : Slots.varSize (.type "object") = pure false := by kernel_rfl
theorem look_type_mro : typeLookup (.type "type") "mro" = pure (some (.builtin "type.mro")) := by rw [typeLookup_type, builtinLookup_eq_fast]; kernel_rfl
theorem hook_type : mroHook? (.type "type") = pure none := by
  unfold mroHook?
  rw [look_type_mro]; rfl
theorem lin_obj : linearize [.type "object"] mroOf = pure [.type "object"] := by kernel_rfl
theorem mro_obj : mroOf (.type "object") = pure [.type "object"] := by rw [mroOf_type]; kernel_rfl
theorem look_obj_new : typeLookup (.type "object") "__new__" = pure (some (.builtin "object.__new__")) := by rw [typeLookup_type, builtinLookup_eq_fast]; kernel_rfl
theorem made_obj : Bind.madeBy (.type "object") = pure (some "object.__new__") := madeBy_type mro_obj look_obj_new (by decide +kernel)
theorem note_obj (a : Addr) : noteSubclassOfBuiltin "object" a = pure () := by kernel_rfl
theorem look_dict_iter : typeLookup (.type "dict") "__iter__" = pure (some (.builtin "dict.__iter__")) := by rw [typeLookup_type, builtinLookup_eq_fast]; kernel_rfl
theorem sn_str : typeLookup (.type "str") "__set_name__" = pure none := by rw [typeLookup_type, builtinLookup_eq_fast]; kernel_rfl
theorem sn_int : typeLookup (.type "int") "__set_name__" = pure none := by rw [typeLookup_type, builtinLookup_eq_fast]; kernel_rfl
theorem sn_none : typeLookup (.type "NoneType") "__set_name__" = pure none := by rw [typeLookup_type, builtinLookup_eq_fast]; kernel_rfl
theorem sn_func : typeLookup (.type "function") "__set_name__" = pure none := by rw [typeLookup_type, builtinLookup_eq_fast]; kernel_rfl
theorem sn_list : typeLookup (.type "list") "__set_name__" = pure none := by rw [typeLookup_type, builtinLookup_eq_fast]; kernel_rfl
theorem sn_tuple : typeLookup (.type "tuple") "__set_name__" = pure none := by rw [typeLookup_type, builtinLookup_eq_fast]; kernel_rfl
theorem sn_mem : typeLookup (.type "member_descriptor") "__set_name__" = pure none := by rw [typeLookup_type, builtinLookup_eq_fast]; kernel_rfl
section
variable {α β : Type} {M : Model} {A : Around} {Q : α → Shared → Prop} {E : Value → Shared → Prop} {s : Shared}
theorem zf_nil' {l : List β} {b : α} {f : β → α → Sem (ForInStep α)} (e : l = []) (h : Q b s) : wpAny M A (forIn l b f) Q E s := by subst e; exact zf_nil h
theorem zf_cons' {l : List β} {b : α} {x : β} {r : List β} {f : β → α → Sem (ForInStep α)} (e : l = x :: r) (h : wpAny M A (f x b >>= fun q => match q with | .done b => pure b | .yield b => forIn r b f) Q E s) : wpAny M A (forIn l b f) Q E s := by subst e; exact zf_cons h
end
theorem isType_obj : isType (.type "object") = pure true := by kernel_rfl
theorem zf_arr {α β : Type} {M : Model} {A : Around} {Q : α → Shared → Prop} {E : Value → Shared → Prop} {s : Shared} {a : Array β} {l : List β} {b : α} {f : β → α → Sem (ForInStep α)} (e : a.toList = l) (h : wpAny M A (forIn l b f) Q E s) : wpAny M A (forIn a b f) Q E s := by
  subst e
  rw [← Array.forIn_toList]; exact h
section
variable {α : Type} {M : Model} {A : Around} {Q : α → Shared → Prop} {E : Value → Shared → Prop} {s : Shared}
theorem zi_tb {b : Bool} {x y : Sem α} (e : b = true) (h : wpAny M A x Q E s) : wpAny M A (if b = true then x else y) Q E s := by rw [if_pos e]; exact h
theorem zi_fb {b : Bool} {x y : Sem α} (e : b = false) (h : wpAny M A y Q E s) : wpAny M A (if b = true then x else y) Q E s := by rw [if_neg (by rw [e]; exact Bool.false_ne_true)]; exact h
end
section
variable {w : World} {A : Around} {E : Value → Shared → Prop} {h₀ h : Heap} {chg news : List (Addr × Obj)} {g : Array GenState} {d : Drawn} {t : Nat} {os : OsState}
theorem za_delq {a : Addr} {x y : Int} {k k' : Tok} {v v' : Value} {l : List DictEntry} {n : Nat} {Q : Bool → Shared → Prop} (D : Lg h₀ h chg news) (i : Nat) (hi : news[i]? = some (a, dO (⟨x, .str "__module__" k, v⟩ :: ⟨y, .str "__qualname__" k', v'⟩ :: l) n))
    (hQ : ∀ h', Lg h₀ h' chg (news.set i (a, dO (⟨x, .str "__module__" k, v⟩ :: l) (n + 1))) → Q true ⟨h', g, d, t, os⟩) : wpAny (model P w) A (nsDel a "__qualname__") Q E ⟨h, g, d, t, os⟩ := by
  unfold nsDel
  refine wpAny_bind (wpAny_loadPart (D.at i hi) ?_)
  refine wpAny_bind (wpAny_of_eq (a := true) (by kernel_rfl) ?_)
  refine zi_t rfl ?_
  have e : Obj.dropName "__qualname__" (dO (⟨x, .str "__module__" k, v⟩ :: ⟨y, .str "__qualname__" k', v'⟩ :: l) n) = dO (⟨x, .str "__module__" k, v⟩ :: l) (n + 1) := by kernel_rfl
  refine wpAny_bind (wpAny_updatePart (D.at i hi) (wpAny_pure ?_))
  have D2 := D.update (i := i) (f := Obj.dropName "__qualname__") hi (by rw [e]; rfl)
  rw [e] at D2
  exact hQ _ D2
end
theorem own_obj_new : classOwn (.type "object") "__new__" = pure (some (.builtin "object.__new__")) := by kernel_rfl
noncomputable abbrev kO (k : ClassData) (sl : Array (Option Value)) : Obj := { cls := .type "type", data := .cls k, slots := sl }
section
variable {w : World} {A : Around} {E : Value → Shared → Prop} {h₀ h : Heap} {chg news : List (Addr × Obj)} {g : Array GenState} {d : Drawn} {t : Nat} {os : OsState}
theorem za_slot {a : Addr} {k : ClassData} {sl : Array (Option Value)} (sl' : Array (Option Value)) {j : Nat} {v : Option Value} {Q : Unit → Shared → Prop} (D : Lg h₀ h chg news) (i : Nat) (hi : news[i]? = some (a, kO k sl)) (hj : (decide (j ≥ sizeLine)) = false)
    (e : (sl ++ Array.replicate (j + 1 - sl.size) none).setIfInBounds j v = sl') (hQ : ∀ h', Lg h₀ h' chg (news.set i (a, kO k sl')) → Q () ⟨h', g, d, t, os⟩) : wpAny (model P w) A (setSlotAt a j v) Q E ⟨h, g, d, t, os⟩ := by
  unfold setSlotAt
  refine zi_f (by simpa using hj) ?_
  subst e
  exact wpAny_updatePart (D.at i hi) (hQ _ (D.update (f := fun o => { o with slots := (o.slots ++ Array.replicate (j + 1 - o.slots.size) none).setIfInBounds j v }) hi rfl))
theorem za_cls {a : Addr} {k k' : ClassData} {sl : Array (Option Value)} {f : ClassData → ClassData} {Q : Unit → Shared → Prop} (D : Lg h₀ h chg news) (i : Nat) (hi : news[i]? = some (a, kO k sl)) (e : f k = k') (hp : (Data.cls k').pastItsLine = none)
    (hQ : ∀ h', Lg h₀ h' chg (news.set i (a, kO k' sl)) → Q () ⟨h', g, d, t, os⟩) : wpAny (model P w) A (updateCls a f) Q E ⟨h, g, d, t, os⟩ := by
  unfold updateCls
  refine wpAny_bind (wpAny_load (D.at i hi) ?_)
  subst e
  have D2 := D.update (i := i) (f := Obj.mapCls f) hi rfl
  refine wpAny_bind (wpAny_update (D.at i hi) ?_)
  unfold lookBehind
  refine wpAny_bind (wpAny_loadPart (o := kO (f k) sl) ((D2.nw (a, kO (f k) sl) (List.mem_set (List.getElem?_eq_some_iff.mp hi).1 _)).1) ?_)
  rw [hp]
  exact wpAny_pure (hQ _ D2)
theorem za_slotAt {a : Addr} {o : Obj} {i : Nat} {r : Option Value} {Q : Option Value → Shared → Prop} (ho : h.get? a = some o) (e : (o.slots[i]?).join = r) (hQ : Q r ⟨h, g, d, t, os⟩) : wpAny (model P w) A (slotAt a i) Q E ⟨h, g, d, t, os⟩ := by
  subst e
  exact wpAny_bind (wpAny_loadPart ho (wpAny_pure hQ))
end
theorem Lg.hd {h₀ h : Heap} {chg news : List (Addr × Obj)} {a : Addr} {o o' : Obj} (D : Lg h₀ h chg ((a, o) :: news)) (e : o = o') : Lg h₀ h chg ((a, o') :: news) := e ▸ D
theorem ixr {α : Type} (i : Nat) {l : List α} {x : α} (h : l[i]? = some x) : l[i]? = some x := h
theorem gen_Q {α : Type} {M : Model} {A : Around} {E : Value → Shared → Prop} {s : Shared} {c : Sem α} {Q : α → Shared → Prop} (h : ∀ Q1 : α → Shared → Prop, (∀ a s', Q a s' → Q1 a s') → wpAny M A c Q1 E s) : wpAny M A c Q E s := h Q fun _ _ q => q
end PartKF

section PartKX
theorem enterF {w : World} {A : Around} {s : Shared} {f : Addr} {args : List Value} {Post : Value → Vis → Vis → Prop} {fd : FuncData} {body : List Stmt} {binds : List (Str × Value)} {o : Obj} {k}
    (kin : (K2 w.params).In s.heap) (hA : Ok k A)
    (ho : s.heap.get? f = some o) (hd : o.data = .func fd)
    (hcd : s.heap.CodeRec fd.code fd.qualname)
    (hbody : fd.body = .stmts body) (hbind : bindArgs fd ⟨args, []⟩ = pure binds)
    (hcell : (fd.scope.names.all fun x => !(x.2 == .cell)) = true) (hloc : (binds.all fun x => fd.scope.names.lookup x.1 == some .local) = true)
    (hco : fd.scope.isCoroutine = false) (hgen : fd.scope.isGenerator = false) (hk : fd.scope.kind = .function)
    (h : ∀ L s', Cx w s L binds.reverse (vis s.heap) [] s' →
      wpAny (model P w) (A.deeper (callEnv fd L f)) (execs body (callEnv fd L f)) (fun fl s' => To s s' ∧ Post (match fl with | .ret v => v | _ => .none) (vis s.heap) (vis s'.heap)) (fun _ _ => False) s') :
    Spec w A f args Post s := by
  intro R E hR
  refine wpAny_call (codeAny_call_function hA.room ho hd hco hgen hbody hcd (BindsTo.of_eq hbind _ _ _ _ ?_))
  refine wpAny_newFunctionEnv (fun x hx e => ?_) (fun x hx => ?_) (fun h₀ hns₀ hsb₀ => ⟨(noLimit kin).fresh _ hsb₀, codeAny_func ?_⟩) hk
  · have := List.all_eq_true.mp hcell x hx
    rw [e] at this; cases this
  · exact beq_iff_eq.mp (List.all_eq_true.mp hloc x hx)
  · have hv : ∀ b o, s.heap.get? b = some o → h₀.get? b = some o := fun b o e => hsb₀.extBut b o (Nat.ne_of_lt (Heap.lt_size e)) (Heap.get?_push_of_some _ e)
    have hnone : s.heap.get? s.heap.objs.size = none := size_none _
    refine wpAny_mono (h s.heap.objs.size { s with heap := h₀, toks := s.toks + binds.length } ⟨kin, hv, hnone, ⟨_, hns₀, fun x v e => e⟩, ?_, rfl, rfl, rfl, (fun _ h => nomatch h), List.nodup_nil⟩) (fun fl s' q => hR _ _ q.1 q.2) (fun _ _ q => q.elim)
    funext b
    by_cases hb : b = s.heap.objs.size
    · obtain ⟨o, es, ep, ho, hd, _⟩ := hns₀
      rw [hb, vis_dict ho hd, vis_none hnone]
    · refine vis_congr ((hsb₀.2 b hb).trans (Heap.get?_push_ne _ _ _ hb))
/-- the body of the class's order -/
noncomputable def ltBody (p1 p2 p3 p4 p5 p6 p7 p8 p9 : Pos) (n0 : Nat) : List Stmt :=
  [.Return (some (.Compare (.Call (.Name "mycmp" p1) [.Attribute (.Name "self" p2) "obj" p3, .Attribute (.Name "other" p4) "obj" p5] [] p6) [.Lt] [.Constant (.int 0) n0 p7] p8)) p9]
/-- what the attribute gives -/
noncomputable def Gets (w : World) (s : Shared) (a : Addr) (x : List Nat) : Prop := ∃ t, ∀ (A : Around) (s' : Shared) (ex : Bool) (Q E : Value → Shared → Prop), Ok 3 A → (K2 w.params).In s'.heap →
  (∀ b o, s.heap.get? b = some o → s'.heap.get? b = some o) → (∀ t', Q (.str (T x) t) { s' with toks := t' }) → wpAny (model P w) A (getAttr (.ref a) "obj" ex) Q E s'
theorem lt_body {w A s k} {f cM a b : Addr} {fd : FuncData} {o : Obj} {p1 p2 p3 p4 p5 p6 p7 p8 p9 : Pos} {n0 : Nat} {rs qs : List (List Nat)}
    (kin : (K2 w.params).In s.heap) (hA : Ok (k + rs.length + 6) A) (ho : s.heap.get? f = some o) (hd : o.data = .func fd) (hcd : s.heap.CodeRec fd.code fd.qualname)
    (hbody : fd.body = .stmts (ltBody p1 p2 p3 p4 p5 p6 p7 p8 p9 n0)) (hbind : bindArgs fd ⟨[.ref a, .ref b], []⟩ = pure ([("self", .ref a), ("other", .ref b)] : List (Str × Value)))
    (hsc : fd.scope.names = ([("self", .local), ("other", .local), ("mycmp", .free)] : List (Str × NameKind)))
    (hco : fd.scope.isCoroutine = false) (hgen : fd.scope.isGenerator = false) (hk : fd.scope.kind = .function) (hclo : fd.closure = ([("mycmp", cM)] : List (Str × Addr))) (hcM : s.heap.get? cM = some (cellO (some (.ref 214))))
    (ga : Gets w s a (pth rs.reverse)) (gb : Gets w s b (pth qs.reverse)) (hr : GL rs) (hq : GL qs) (l1 : rs.length ≤ 20) (l2 : qs.length ≤ 20) :
    Spec w A f [.ref a, .ref b] (fun v _ _ => v = .bool (decide (ordR rs qs < 0))) s := by
  refine enterF kin hA ho hd hcd hbody hbind (by rw [hsc]; rfl) (by rw [hsc]; rfl) hco hgen hk fun L s' C => ?_
  have hAd := Ok.deeper (k := k + rs.length + 5) hA (callEnv fd L f)
  obtain ⟨t, ga⟩ := ga
  obtain ⟨u, gb⟩ := gb
  have k1 : (callEnv fd L f).kindOf "self" = some .local := by show fd.scope.names.lookup _ = _; rw [hsc]; rfl
  have k2 : (callEnv fd L f).kindOf "other" = some .local := by show fd.scope.names.lookup _ = _; rw [hsc]; rfl
  have k3 : (callEnv fd L f).kindOf "mycmp" = some .free := by show fd.scope.names.lookup _ = _; rw [hsc]; rfl
  have k4 : (callEnv fd L f).cells.lookup (Str.ofString "mycmp") = some cM := by show fd.closure.lookup _ = _; rw [hclo]; rfl
  have k5 : (callEnv fd L f).scope.kind = .function := hk
  have k6 : (callEnv fd L f).locals = L := rfl
  generalize callEnv fd L f = env at *
  generalize A.deeper env = Ad at *
  unfold ltBody
  ((with_reducible refine ex_gen ?_); intro Qn hN hO)
  with_reducible refine wpAny_Return_some ?_
  refine wpAny_Compare1 ?_ (by with_unfolding_all rfl)
  refine nm_call ?_
  refine nm_f C k5 k3 k4 rfl rfl (vis_some hcM rfl) ?_
  refine cu2 (hl := rfl) rfl ?_
  refine Attribute_name (nm_l C k6 k5 k1 rfl rfl ?_)
  refine ga _ _ _ _ _ (hAd.mono (by lia)) C.k C.keep fun t1 => ?_
  have C1 := C.tok t1
  refine Attribute_name (nm_l C1 k6 k5 k2 rfl rfl ?_)
  refine gb _ _ _ _ _ (hAd.mono (by lia)) C1.k C1.keep fun t2 => ?_
  have C2 := C1.tok t2
  refine ⟨C2.k, ?_⟩
  refine use C2 (order_c rs qs Ad _ (k+1) _ _ C2.k (Ok.mono hAd (by lia)) hr hq l1 l2) fun v g' s3 e3 q C3 => ?_
  obtain ⟨tk, rfl⟩ := q
  with_reducible refine wpAny_Constant_int ?_
  refine lt_int ?_
  ((with_reducible refine qot (by assumption) ?e1 ?_); (case e1 => exact fun h => nomatch h); (try clear hN hO))
  dsimp only
  exact ⟨(C3.tok _).to, rfl⟩
end PartKX

section PartKY
open PySem.W.X
theorem pair_in {h : Heap} {a b : Addr} {oa ob : Obj} (ha : h.get? a = some oa) (hb : h.get? b = some ob) : Frag.In [(a, oa), (b, ob)] h := by
  intro c o e
  rw [List.lookup_cons] at e
  split at e
  · rename_i q; cases e; rw [beq_iff_eq.mp q]; exact ha
  · rw [List.lookup_cons] at e
    split at e
    · rename_i q; cases e; rw [beq_iff_eq.mp q]; exact hb
    · cases e
section
variable {M : Model} {h : Heap} {kA nsK : Addr} {cd : ClassData} {sl : Array (Option Value)} {es : Array DictEntry} {n : Nat} {name : Str} {v : Value}
theorem look_own (hne : kA ≠ nsK) (hK : h.get? kA = some { cls := .type "type", data := .cls cd, slots := sl }) (hm : cd.mro = [.ref kA, .type "object"]) (hns : cd.ns = nsK) (hN : h.get? nsK = some { cls := .type "dict", data := .dict es n })
    (hf : (es.toList.find? (·.key.isStr name)).map (·.val) = some v) : Looks M h (typeLookup (.ref kA) name) (some v) := by
  refine looks_findIn (pair_in hK hN) ?_
  have h1 : (nsK == kA) = false := beq_eq_false_iff_ne.mpr (Ne.symm hne)
  obtain ⟨e, he, rfl⟩ := Option.map_eq_some_iff.mp hf
  simp [findIn, List.lookup, hm, alongIn, ownIn, nsIn, hns, h1, he]
theorem look_up (hne : kA ≠ nsK) (hK : h.get? kA = some { cls := .type "type", data := .cls cd, slots := sl }) (hm : cd.mro = [.ref kA, .type "object"]) (hns : cd.ns = nsK) (hN : h.get? nsK = some { cls := .type "dict", data := .dict es n })
    (hf : es.toList.find? (·.key.isStr name) = none) (hr : es.toList.any (·.refKey) = false) (ho : fastBuiltinOwn "object" name = some v) : Looks M h (typeLookup (.ref kA) name) (some v) := by
  refine looks_findIn (pair_in hK hN) ?_
  have h1 : (nsK == kA) = false := beq_eq_false_iff_ne.mpr (Ne.symm hne)
  have h2 : fastBuiltinOwn "object" name = some v := ho
  simp only [findIn, List.lookup, beq_self_eq_true, hm, alongIn, ownIn, nsIn, hns, h1, hf, hr, h2, Bool.false_eq_true, if_false]
end
theorem key_lt {w A s} {a b kA f2 : Addr} {oa o : Obj} {Q : Bool → Shared → Prop} {E : Value → Shared → Prop} (hu : A.units < cLine) (ha : s.heap.get? a = some oa) (hc : oa.cls = .ref kA) (hlt : Looks (model P w) s.heap (typeLookup (.ref kA) "__lt__") (some (.ref f2)))
    (hf : s.heap.get? f2 = some o) (hft : o.cls = .type "function") (h : wpAny (model P w) A (call (.ref f2) [.ref a, .ref b] []) (fun v s' => ∃ c, v = .bool c ∧ Q c s') E s) :
    wpAny (model P w) A (keyLt' oneType' (.ref a) (.ref b)) Q E s := by
  have Ta : Looks (model P w) s.heap (typeOf (.ref a)) (.ref kA) := hc ▸ (Looks.ld ha).andThen .now
  have Tf : Looks (model P w) s.heap (typeOf (.ref f2)) (.type "function") := hft ▸ (Looks.ld hf).andThen .now
  have B : Looks (model P w) s.heap (bindSpecial (.ref f2) (.ref a)) (.ref f2, [.ref a]) := by
    unfold bindSpecial
    exact Tf.andThen (Looks.of_pure (by kernel_rfl))
  have go : ∀ Q' : Option Value → Shared → Prop, (∀ c s', Q c s' → Q' (some (.bool c)) s') → wpAny (model P w) A (call (.ref f2) ([.ref a] ++ [.ref b]) [] >>= fun v => pure (some v)) Q' E s := fun Q' hq =>
    wpAny_bind (wpAny_mono h (fun v s' q => by
      obtain ⟨c, rfl, q⟩ := q
      exact wpAny_pure (hq _ _ q)) fun _ _ q => q)
  rw [keyLt'_oneType, oneLt'_eq]
  simp only [if_true]
  refine wpAny_bind (wpAny_cRoomFor hu (wpAny_bind ?_))
  simp only [callSpecialIfBound?, bindSpecialIfBound?]
  refine wpAny_holding (wpAny_bind (wpAny_bind (wpAny_bind (Ta.here (hlt.here ?_)))))
  refine wpAny_bind (wpAny_askSetting (wpAny_ite ?_))
  split
  · exact wpAny_bind (B.here (wpAny_pure (by exact go _ fun c s' q => wpAny_bind (wpAny_truthy_bool (wpAny_pure q)))))
  · exact wpAny_tryCatch (wpAny_bind (B.here (wpAny_pure (by exact go _ fun c s' q => wpAny_bind (wpAny_truthy_bool (wpAny_pure q))))))
/-- a text wrapped by the class -/
noncomputable def instO (kA d : Addr) (x : Str) (t : Tok) : Obj := { cls := .ref kA, dict := some d, slots := #[some (.str x t)] }
theorem obj_slots {c : Value} {d : Option Addr} {x y : Array (Option Value)} (h : x = y) : ({ cls := c, dict := d, slots := x } : Obj) = { cls := c, dict := d, slots := y } := by rw [h]
/-- what is new since h0 in hE still stands -/
noncomputable def Stays (h0 hE h : Heap) : Prop := ∀ b o, h0.get? b = none → hE.get? b = some o → h.get? b = some o
/-- the call of the class -/
noncomputable def KCall (w : World) (kA : Addr) (h0 hE : Heap) : Prop :=
  ∀ (A : Around) (k : Nat) (s : Shared) (x : Str) (t : Tok) (Q E : Value → Shared → Prop), Stays h0 hE s.heap → (K2 w.params).In s.heap → Ok (k+3) A →
    (∀ a d h' t', (∀ b o, s.heap.get? b = some o → h'.get? b = some o) → s.heap.get? a = none → h'.get? a = some (instO kA d x t) → Q (.ref a) { s with heap := h', toks := t' }) →
    wpAny (model P w) A (call (.ref kA) [.str x t] []) Q E s
/-- the order of two instances -/
noncomputable def KLt (w : World) (kA : Addr) (h0 hE : Heap) : Prop :=
  ∀ (A : Around) (k : Nat) (s : Shared) (a b d1 d2 : Addr) (t1 t2 : Tok) (rs qs : List (List Nat)) (Q : Bool → Shared → Prop) (E : Value → Shared → Prop), Stays h0 hE s.heap → (K2 w.params).In s.heap → Ok (k + rs.length + 7) A →
    s.heap.get? a = some (instO kA d1 (T (pth rs.reverse)) t1) → s.heap.get? b = some (instO kA d2 (T (pth qs.reverse)) t2) → GL rs → GL qs → rs.length ≤ 20 → qs.length ≤ 20 →
    (∀ s', To s s' → Q (decide (ordR rs qs < 0)) s') → wpAny (model P w) A (keyLt' oneType' (.ref a) (.ref b)) Q E s
/-- what cmp_to_key gives -/
structure KOk (w : World) (s : Shared) (kA : Addr) (s' : Shared) : Prop where
  keep : ∀ b o, s.heap.get? b = some o → b ≠ 40 → s'.heap.get? b = some o
  tab : ∃ l, s'.heap.get? 40 = some (tabO l)
  gens : s'.gens = s.gens
  drawn : s'.drawn = s.drawn
  os : s'.os = s.os
  kcall : KCall w kA s.heap s'.heap
  klt : KLt w kA s.heap s'.heap
theorem get_k {w A s} {a kA : Addr} {ex : Bool} {oa : Obj} {Q E : Value → Shared → Prop} (ha : s.heap.get? a = some oa) (hc : oa.cls = .ref kA)
    (hga : Looks (model P w) s.heap (typeLookup (.ref kA) "__getattribute__") (some (.builtin "object.__getattribute__")))
    (h : ∀ tk E', wpAny (model P w) A (runValue (.builtin "proto.getattr_hooked" ⟨[.ref a, .str "obj" tk], []⟩)) (fun v s' => handedIn v = true ∧ Q v s') E' { s with toks := s.toks + 1 }) : wpAny (model P w) A (getAttr (.ref a) "obj" ex) Q E s := by
  obtain ⟨hh, g, d, tk, os⟩ := s
  have Ta : Looks (model P w) hh (typeOf (.ref a)) (.ref kA) := hc ▸ (Looks.ld ha).andThen .now
  unfold getAttr getAttrBy
  refine wpAny_bind (wpAny_mkText (wpAny_holding (wpAny_bind (Ta.at (wpAny_bind (hga.at ?_))))))
  show wpAny _ _ (getAttrEveryday _ _ _) _ _ _
  unfold getAttrEveryday
  refine wpAny_bind (wpAny_onRaise (wpAny_mono (h tk _) (fun v s' q => ?_) fun _ _ q => q))
  rw [handedOut_of q.1]
  exact wpAny_pure q.2
theorem Lg.stay {h0 h h2 : Heap} {chg news : List (Addr × Obj)} (D : Lg h0 h chg news) (st : Stays h0 h h2) (i : Nat) {a : Addr} {o : Obj} (hi : news[i]? = some (a, o)) : h2.get? a = some o :=
  st a o (D.nw _ (List.mem_of_getElem? hi)).2 (D.at i hi)
theorem oldK_of {p : Params} {h0 h : Heap} {l : List Value} (kin : (hd.heap_39 p).In h0) (keep : ∀ b o, h0.get? b = some o → b ≠ 40 → h.get? b = some o) (tab : h.get? 40 = some (tabO l)) : OldK h0 h := by
  have ht : h0.TableAt 44 40 #[] := table_at (kin 44 _ rfl) rfl rfl (kin 40 _ rfl) rfl
  refine ⟨fun b o e => ?_, fun b o e => ?_⟩
  · by_cases hb : b = 40
    · subst hb
      have : o = tableObj #[] := Option.some.inj (e.symm.trans ht.2)
      subst this
      exact .inr (.inl ⟨ht.isCodeTable, rfl, #[], l.toArray, rfl, by rw [tab]; simp [tabO, tableObj]⟩)
    · exact .inl (keep b o e hb)
  · by_cases hb : b = 40
    · subst hb; exact ⟨_, tab⟩
    · exact ⟨_, keep b o e hb⟩
end PartKY

section PartLW1
section
variable {w : World} {A : Around} {E : Value → Shared → Prop} {s s₀ : Shared} {L : Addr} {l : List (Str × Value)} {g : Vis} {pr : List (Addr × Obj)} {env : Env}
/-- what the rule of a slice with a step is told -/
inductive SlP (w : World) (o vl vk : Value) (Q : Value → Shared → Prop) (s₃ : Shared) : Prop
  | intro {s₀ : Shared} {L : Addr} {l : List (Str × Value)} {g : Vis} {pr : List (Addr × Obj)} (a : Addr) (items : Array Value) (lo k : Option Int) (h1 : o = .ref a) (h2 : IsPart vl lo) (h3 : IsPart vk k) (h4 : k ≠ some 0) (h5 : items.size ≤ sizeLine) (h6 : s₃.heap.IsList a items)
    (C : Cx w s₀ L l g pr s₃) (h : ∀ D s', g D = none → s₀.heap.get? D = none → Cx w s₀ L l (put g D (lstO (slicePick items lo none k).toList 0)) pr s' → Q (.ref D) s') : SlP w o vl vk Q s₃
/-- a slice with a step -/
theorem slice_st {value st : Expr} {lower : Option Expr} {p pos : Pos} {Q : Value → Shared → Prop} (ht : ∀ o r, letTemporaryGo value o r = pure ())
    (h : wpAny (model P w) A (eval value env) (fun o s₁ => wpAny (model P w) A (evalPart lower env) (fun vl s₂ => wpAny (model P w) A (eval st env) (fun vk s₃ =>
      SlP w o vl vk Q s₃) E s₂) E s₁) E s) :
    wpAny (model P w) A (eval (.Subscript value (.Slice lower none (some st) p) pos) env) Q E s := by
  refine wpAny_Subscript_Slice_step (T := "list") list_getitem_lookup (wpAny_mono h (fun o s₁ h₁ => wpAny_Slice (wpAny_mono h₁ (fun vl s₂ h₂ => ?_) fun _ _ e => e)) fun _ _ e => e) ht
  rw [evalPart_none]
  refine wpAny_pure ?_
  rw [evalPart_some]
  refine wpAny_mono h₂ (fun vk s₃ h₃ => ?_) fun _ _ e => e
  obtain ⟨a, items, lo, k, rfl, pl, pk, h0, hsz, hl, C, hQ⟩ := h₃
  refine ⟨(hl.push _).typeIs, wpAny_getItem_list_slice (hl.push _) (Heap.IsSliceOf.new ..) pl .none pk h0 ?_ hsz⟩
  have C1 := C.pushH (o := { cls := .type "slice", data := .fields #[vl, .none, vk] }) rfl rfl s₃.toks
  exact mk_obj (o := lstO (slicePick items lo none k).toList 0) C1 rfl rfl fun D s' h1 h2 h3 => hQ D s' h1 h2 h3
theorem pick_mem {items : Array Value} {lo hi k : Option Int} {v : Value} (h : v ∈ (slicePick items lo hi k).toList) : v ∈ items.toList := by
  unfold slicePick at h
  rw [List.mem_filterMap] at h
  obtain ⟨i, _, h⟩ := h
  exact Array.mem_toList_iff.mpr (Array.mem_of_getElem? h)
theorem sum_c {a : Addr} {vs : List Value} {n : Nat} {Q : Value → Shared → Prop} (C : Cx w s₀ L l g pr s) (hh : A.handled = none) (hg : g a = some (lstO vs n)) (hi : ∀ v ∈ vs, ∃ i t, v = .int i t)
    (h : ∀ r t g' s', Ext g g' → Cx w s₀ L l g' pr s' → Q (.int r t) s') : wpAny (model P w) A (call (.builtin "sum") [.ref a]) Q E s := by
  have hall : AllInts vs.toArray := fun v hv => hi v (by simpa using hv)
  obtain ⟨xs, hx⟩ := hall.items
  have hl := C.isList hg
  rw [hx] at hl
  refine sum_intListG hh hl fun h' tk t' hk => ?_
  have z := C.grow hk tk
  exact h _ _ _ _ z.1 z.2
theorem min_c {a b : Int} {t u : Tok} {Q : Value → Shared → Prop} (C : Cx w s₀ L l g pr s) (hh : A.handled = none)
    (h : ∀ k g' s', Ext g g' → Cx w s₀ L l g' pr s' → Q (.int (if b < a then b else a) k) s') : wpAny (model P w) A (call (.builtin "min") [.int a t, .int b u]) Q E s := by
  refine min_two_ints hh fun h' tk hk => ?_
  have z := C.grow hk tk
  by_cases c : b < a
  · have := h u _ _ z.1 z.2
    rw [if_pos c] at this ⊢; exact this
  · have := h t _ _ z.1 z.2
    rw [if_neg c] at this ⊢; exact this
end
/-- a call of a def with one cell, its end free -/
theorem enterL {w : World} {A : Around} {s : Shared} {f : Addr} {args : List Value} {Q E : Value → Shared → Prop} {fd : FuncData} {body : List Stmt} {binds : List (Str × Value)} {oc od osl k}
    (kin : (K2 w.params).In s.heap) (hA : Ok k A)
    (hl : (K2 w.params).lookup f = some ⟨oc, od, .func fd, osl⟩)
    (hcd : codeIn (K2 w.params) fd.code fd.qualname = true)
    (hbody : fd.body = .stmts body) (hbind : bindArgs fd ⟨args, []⟩ = pure binds) (hclo : fd.closure = [])
    (hcell : ∀ h : Heap, pushCells h fd.scope.names = h.push (cellO none))
    (hco : fd.scope.isCoroutine = false) (hgen : fd.scope.isGenerator = false) (hk : fd.scope.kind = .function)
    (h : ∀ L s' (Q' : PUnit → Shared → Prop) (E' : Value → Shared → Prop) A', vis s.heap (L + 1) = none → s.heap.get? (L + 1) = none → Cx w s L [] (put (vis s.heap) (L + 1) (cellO none)) [] s' →
      (∀ l g s'', Cx w s L l g [] s'' → wpAny (model P w) (A.deeper (callEnvC fd L f)) (execs body (callEnvC fd L f)) (fun fl s' => Q (match fl with | .ret v => v | _ => .none) s') (fun _ _ => False) s'' → Q' ⟨⟩ s'') →
      wpAny (model P w) A' (forIn binds PUnit.unit fun x _ => do storeName (callEnvC fd L f) x.1 x.2; pure (ForInStep.yield PUnit.unit)) Q' E' s') :
    wpAny (model P w) A (call (.ref f) args []) Q E s := by
  refine wpAny_call (codeAny_call_function hA.room (kin _ _ hl) rfl hco hgen hbody (codeRec_of kin hcd) (BindsTo.of_eq hbind _ _ _ _ ?_))
  rw [hclo]
  simp only [newFunctionEnv, Option.isSome_none, Bool.false_eq_true, if_false]
  refine wpAny_bind (wpAny_alloc ?_)
  refine wpAny_bind (wpAny_layCells _ (fun name kind cells => by cases hkc : kind == NameKind.cell <;> simp [hkc]) _ _ _ _ ?_)
  have hsz : (s.heap.push { cls := .type "frame", data := .dict #[] }).objs.size = s.heap.objs.size + 1 := Heap.size_push ..
  have hnone : s.heap.get? s.heap.objs.size = none := size_none _
  have hv0 : ∀ b o, s.heap.get? b = some o → (s.heap.push { cls := .type "frame", data := .dict #[] }).get? b = some o := fun b o e => Heap.get?_push_of_some _ e
  have C0 : Cx w s s.heap.objs.size [] (vis s.heap) [] { s with heap := s.heap.push { cls := .type "frame", data := .dict #[] } } := by
    refine ⟨kin, hv0, hnone, ⟨fun _ => none, Heap.Ns.new s.heap (.type "frame"), fun x v e => by cases e⟩, ?_, rfl, rfl, rfl, (fun _ h => nomatch h), List.nodup_nil⟩
    funext b
    by_cases hb : b = s.heap.objs.size
    · rw [hb, vis_hid (Heap.get?_push_size _ rfl) rfl, vis_none hnone]
    · exact vis_congr (Heap.get?_push_ne _ _ _ hb)
  have z := C0.push (o := cellO none) rfl rfl s.toks
  have z0 := size_none₀ C0
  have z1 := z.1
  have z2 := z.2
  change s.heap.get? (s.heap.push { cls := .type "frame", data := .dict #[] }).objs.size = none at z0
  change vis s.heap (s.heap.push { cls := .type "frame", data := .dict #[] }).objs.size = none at z1
  change Cx w s s.heap.objs.size [] (put (vis s.heap) (s.heap.push { cls := .type "frame", data := .dict #[] }).objs.size (cellO none)) [] { s with heap := (s.heap.push { cls := .type "frame", data := .dict #[] }).push (cellO none) } at z2
  rw [hsz] at z0 z1 z2
  dsimp only
  simp only [hcell, hsz]
  show wpAny (model P w) A.in1 (do
      forIn binds PUnit.unit fun x __s => do
          storeName (callEnvC fd s.heap.objs.size f) x.fst x.snd
          pure (ForInStep.yield PUnit.unit)
      pure (callEnvC fd s.heap.objs.size f)) _ _ _
  refine wpAny_bind (wpAny_mono (h s.heap.objs.size _ (fun _ s' => (K2 w.params).In s'.heap ∧ wpAny (model P w) (A.deeper (callEnvC fd s.heap.objs.size f)) (execs body (callEnvC fd s.heap.objs.size f))
    (fun fl s' => Q (match fl with | .ret v => v | _ => .none) s') (fun _ _ => False) s') _ _ z1 z0 z2 (fun l g s'' C q => ⟨C.k, q⟩)) (fun _ s' q => ?_) fun _ _ q => q)
  refine wpAny_pure ?_
  refine ⟨noLimit q.1, codeAny_func ?_⟩
  exact wpAny_mono q.2 (fun fl s' q => by cases fl <;> exact q) (fun _ _ q => q.elim)
end PartLW1

section PartWL
theorem ways_ok {ds : List (List (List Nat))} (D4 : Drawn4 ds) : WOk (waysRaw ds) 13 := by
  have key : ∀ (l ws : List (List (List Nat))) (n : Nat), (∀ ts ∈ l, ts.length = 3 ∧ (∀ t ∈ ts, TOk t) ∧ ∀ t ∈ ts, Cp t) → WOk ws n → WOk (l.foldl (fun ws ts => addP ws (walk ts)) ws) (n + 3 * l.length) := by
    intro l
    induction l with
    | nil => intro ws n _ h; exact h
    | cons ts l ih =>
      intro ws n hl h
      obtain ⟨h3, hok, hcp⟩ := hl ts (.head _)
      have hwl := walk_len ts
      have q := WOk.adds (walk_good hok hcp) (by lia) (List.range (walk ts).length) h
      rw [List.length_range] at q
      have z := ih _ _ (fun t ht => hl t (.tail _ ht)) (q.mono (by lia : _ ≤ n + 3))
      exact z.mono (by simp; lia)
  have z := key ds [[]] 1 (fun ts h => ⟨D4.three ts h, D4.ok ts h, D4.cp ts h⟩) WOk.nil
  exact z.mono (by have := D4.few; lia)
/-- what is known of the ways, sorted -/
structure WF (ds W : List (List (List Nat))) : Prop where
  perm : W.Perm (waysRaw ds)
  sort : W.Pairwise (fun x y => wlt x y = true)
  good : ∀ x ∈ W, Good x
  short : ∀ x ∈ W, x.length ≤ 3
  few : W.length ≤ 13
  cl : Cl W
  pl : (placesOf ds).Perm W
  pnd : (placesOf ds).Nodup
theorem wf_of {ds W : List (List (List Nat))} (D4 : Drawn4 ds) (hp : W.Perm (waysRaw ds)) (hs : W.Pairwise (fun x y => wlt x y = true)) : WF ds W := by
  have ok := ways_ok D4
  have pw := places_ways ds
  refine ⟨hp, hs, fun x h => ok.good x (hp.mem_iff.mp h), fun x h => ok.short x (hp.mem_iff.mp h), by rw [hp.length_eq]; exact ok.few, ?_, ?_, pw.2.2⟩
  · exact ⟨hp.mem_iff.mpr ((pw.1 _).mp pw.2.1.nil), fun t ht u hu => hp.mem_iff.mpr ((pw.1 _).mp (pw.2.1.pre t ((pw.1 t).mpr (hp.mem_iff.mp ht)) u hu))⟩
  · refine List.Perm.trans ?_ hp.symm
    exact (List.perm_ext_iff_of_nodup pw.2.2 ok.nd).mpr pw.1
end PartWL

section PartLW0
section
variable {w : World} {A : Around} {s s₀ sE : Shared} {L : Addr} {l : List (Str × Value)} {g : Vis} {pr : List (Addr × Obj)} {kA : Addr}
theorem Cx.toTo {s' : Shared} (C : Cx w s₀ L l g pr s) (t : To s s') : Ext g (Mine.vis s'.heap) ∧ Cx w s₀ L l (Mine.vis s'.heap) pr s' := by
  obtain ⟨m, hn, hm⟩ := C.loc
  exact ⟨C.vis ▸ t.ext, C.kin, fun b o e => t.keep b o (C.keep b o e), C.new, ⟨m, hn.keeps t.keep, hm⟩, rfl, t.gens.trans C.gens, t.drawn.trans C.drawn, t.os.trans C.os, fun p hp => ⟨t.keep _ _ (C.prot p hp).1, (C.prot p hp).2⟩, C.nd⟩
theorem hide_get {h : Heap} {a b : Addr} {o : Obj} (e : h.get? b = some o) (n : b ≠ a) : (h.hide a).get? b = some o := (Heap.hide_ne h n).trans e
theorem frame_at (C : Cx w s₀ L l g pr s) : ∃ o, s.heap.get? L = some o := by
  obtain ⟨m, hn, _⟩ := C.loc
  obtain ⟨o, es, ep, ho, _⟩ := hn
  exact ⟨o, ho⟩
theorem L_ne40 (C : Cx w s₀ L l g pr s) (kin : (hd.heap_39 w.params).In s₀.heap) : L ≠ 40 := by
  intro e
  have h1 := C.new
  have h2 := kin 40 _ rfl
  rw [e, h2] at h1; cases h1
/-- the law's state behind the making of the class -/
theorem Cx.rebase (C : Cx w s₀ L l g [] s) (kin : (hd.heap_39 w.params).In s₀.heap) (K : KOk w s kA sE) : Cx w { sE with heap := sE.heap.hide L } L l (Mine.vis sE.heap) [] sE := by
  have hL := L_ne40 C kin
  obtain ⟨m, hn, hm⟩ := C.loc
  obtain ⟨o, es, ep, ho, q⟩ := hn
  refine ⟨fun a o e => ?_, fun b o e => Heap.of_hide e, Heap.hide_self _ _, ⟨m, ⟨o, es, ep, K.keep _ _ ho hL, q⟩, hm⟩, rfl, rfl, rfl, rfl, (fun _ h => nomatch h), List.nodup_nil⟩
  have e1 := C.kin a o e
  have n1 : a ≠ L := fun z => by rw [z, C.new] at e1; cases e1
  exact hide_get (K.keep _ _ (C.keep _ _ e1) (look_filter 40 _ a o e).2) n1
theorem vis_kok {a : Addr} {o : Obj} (C : Cx w s₀ L l g pr s) (kin : (hd.heap_39 w.params).In s₀.heap) (K : KOk w s kA sE) (e : g a = some o) (hc : o.cls ≠ .none) : Mine.vis sE.heap a = some o := by
  rw [← C.vis] at e
  obtain ⟨e1, e2⟩ := vis_get e
  refine vis_some (K.keep _ _ e1 fun z => ?_) e2
  have h2 := C.keep _ _ (kin 40 _ rfl)
  rw [z, h2] at e1
  have := Option.some.inj e1
  rw [← this] at hc
  exact hc rfl
theorem stays_of (C : Cx w s₀ L l g pr s) {h : Heap} (k : ∀ b o, (sE.heap.hide L).get? b = some o → h.get? b = some o) : Stays s.heap sE.heap h := fun b o n e => by
  refine k b o (hide_get e fun z => ?_)
  obtain ⟨o', e'⟩ := frame_at C
  rw [z, e'] at n; cases n
end
theorem IsStrs.mem {vs : List Value} {xs : List (List Nat)} (h : IsStrs vs xs) {v : Value} (hv : v ∈ vs) : ∃ x ∈ xs, ∃ t, v = .str (T x) t := by
  obtain ⟨i, hi, rfl⟩ := List.getElem_of_mem hv
  have hl := h.length
  obtain ⟨t, e⟩ := h.get (i := i) (x := xs[i]) (by simp [← hl, hi])
  rw [List.getElem?_eq_getElem hi] at e
  exact ⟨_, List.getElem_mem (by lia), t, Option.some.inj e⟩
/-- a place and its key -/
noncomputable def KI (kA : Addr) (v k : Value) (g : Vis) : Prop := ∃ x t a d, v = .str x t ∧ k = .ref a ∧ g a = some (instO kA d x t)
theorem KI.mono {kA : Addr} {v k : Value} {g g' : Vis} (e : Ext g g') (h : KI kA v k g) : KI kA v k g' := by
  obtain ⟨x, t, a, d, h1, h2, h3⟩ := h
  exact ⟨x, t, a, d, h1, h2, e _ _ h3⟩
theorem All2.right {R : Value → Value → Prop} {as bs : List Value} (h : All2 R as bs) : ∀ b ∈ bs, ∃ a, R a b := by
  induction h with
  | nil => intro b hb; cases hb
  | cons h _ ih =>
    intro b hb
    rcases List.mem_cons.mp hb with rfl | hb
    · exact ⟨_, h⟩
    · exact ih b hb
theorem listing_c {w A s s₀ L l g k} {kA pa : Addr} {h0 hE : Heap} {pv : List Value} {pm : Nat} {Ps W : List (List (List Nat))} {Q E : Value → Shared → Prop} (C : Cx w s₀ L l g [] s)
    (st : ∀ h : Heap, (∀ b o, s₀.heap.get? b = some o → h.get? b = some o) → Stays h0 hE h) (kc : KCall w kA h0 hE) (kl : KLt w kA h0 hE) (hA : Ok (k + 20) A)
    (hpa : g pa = some (lstO pv pm)) (hpv : IsStrs pv (Ps.map pth)) (nd : Ps.Nodup) (hp : Ps.Perm W) (hs : W.Pairwise (fun x y => wlt x y = true)) (h1 : 1 ≤ W.length) (few : W.length ≤ 13) (good : ∀ x ∈ W, Good x) (short : ∀ x ∈ W, x.length ≤ 3)
    (hQ : ∀ D m ov g' s', Ext g g' → g D = none → s₀.heap.get? D = none → g' D = some (lstO ov m) → IsStrs ov (W.map pth) → Cx w s₀ L l g' [] s' → Q (.ref D) s') :
    wpAny (model P w) A (call (.builtin "sorted") [.ref pa] [(Str.ofString "key", .ref kA)]) Q E s := by
  have hpl := hp.length_eq
  have hvl : pv.length = Ps.length := by rw [hpv.length, List.length_map]
  have atI : ∀ i, i < Ps.length → ∃ t, pv.getD i .none = .str (T (pth (Ps.getD i []))) t := fun i hi => by
    obtain ⟨t, e⟩ := hpv.get (i := i) (x := pth (Ps.getD i [])) (by simp [List.getD_eq_getElem?_getD, hi])
    exact ⟨t, by rw [List.getD_eq_getElem?_getD, e]; rfl⟩
  have gI : ∀ i, i < Ps.length → Ps.getD i [] ∈ W := fun i hi => hp.mem_iff.mp (getD_mem hi)
  refine sorted_key (KO := KI kA) (κ := oneType') (lt := fun i j => wlt (Ps.getD i []) (Ps.getD j [])) C hpa (by lia) (by lia) (ksk_s1 _ _) (fun x => ksk_l1 _ _) (fun x => ksk_t1 _ x) (fun v k g g' e h => h.mono e) ?hkey ?hkind ?hcmp ?hO ?hQ
  case hkey =>
    intro v hv x y g' s' Q' e hx hy hx' hy' C' hQ'
    obtain ⟨p, hp1, t, rfl⟩ := hpv.mem hv
    refine kc A.in1.in1 (k+1) s' (T p) t _ _ (st _ C'.keep) C'.k (hA.mono (by lia : k + 6 ≤ k + 20)).in1.in1 fun a d h' t' keep hnew hin => ?_
    have z := C'.grow keep t'
    have hne : ∀ q, g' q ≠ none → a ≠ q := fun q hq w => by
      cases z : g' q with
      | none => exact hq z
      | some o => have := C'.at z; rw [← w, hnew] at this; cases this
    exact hQ' _ _ _ z.1 ⟨_, _, a, d, rfl, rfl, Off.some (hne _ hx') (hne _ hy') (vis_some hin rfl)⟩ z.2
  case hkind =>
    intro h2 ks g' s' Q' e C' hall hq
    refine kas_kind (T := .ref kA) (by rw [← hall.length]; exact h2) (fun v hv => ?_) rfl (by simp) hq
    obtain ⟨u, x, t, a, d, rfl, rfl, ha⟩ := hall.right v hv
    exact (Looks.ld (C'.at ha)).andThen .now
  case hcmp =>
    intro i j ki kj hi hj g' s' Q' e C' a1 a2 hq
    rw [hvl] at hi hj
    obtain ⟨x1, t1, a, d1, e1, rfl, ha⟩ := a1
    obtain ⟨x2, t2, b, d2, e2, rfl, hb⟩ := a2
    obtain ⟨u1, f1⟩ := atI i hi
    obtain ⟨u2, f2⟩ := atI j hj
    rw [f1] at e1
    rw [f2] at e2
    obtain ⟨rfl, rfl⟩ := Value.str.inj e1
    obtain ⟨rfl, rfl⟩ := Value.str.inj e2
    have gi := gI i hi
    have gj := gI j hj
    have ha' := C'.at ha
    have hb' := C'.at hb
    have si := short _ gi
    have sj := short _ gj
    rw [← List.reverse_reverse (Ps.getD i [])] at ha'
    rw [← List.reverse_reverse (Ps.getD j [])] at hb'
    refine kl A.in1.in1 k s' a b d1 d2 _ _ (Ps.getD i []).reverse (Ps.getD j []).reverse Q' _ (st _ C'.keep) C'.k ((hA.mono (by rw [List.length_reverse]; lia : k + (Ps.getD i []).reverse.length + 9 ≤ k + 20)).in1.in1) ha' hb' (good _ gi).gl.rev (good _ gj).gl.rev (by rw [List.length_reverse]; lia) (by rw [List.length_reverse]; lia) fun s'' to => ?_
    rw [ordR_neg, List.reverse_reverse, List.reverse_reverse]
    have z := C'.toTo to
    exact hq _ _ z.1 z.2
  case hO => rw [hvl]; exact sord_wlt nd
  case hQ =>
    intro D p m2 g' s' hsh has e hD hD0 hgD C'
    rw [hvl] at hsh has
    have so := sort_out (d := []) (lt' := wlt) hsh has
    have eW : (p.toList.map fun i => Ps.getD i []) = W := sorted_one (fun x => (so.1.mem_iff).trans hp.mem_iff) so.2 hs
    refine hQ D m2 _ g' s' e hD hD0 hgD ?_ C'
    have z := hpv.pick p.toList fun i hi => by
      have := (hsh.perm.mem_iff (a := i)).mp hi
      simpa using this
    have q : (p.toList.map fun i => (Ps.map pth).getD i []) = W.map pth := by
      rw [← eW, List.map_map]
      refine List.map_congr_left fun i hi => ?_
      have hi' : i < Ps.length := by
        have := (hsh.perm.mem_iff (a := i)).mp hi
        simpa using this
      simp [List.getD_eq_getElem?_getD, hi']
    rw [← q]; exact z
section
variable {w : World} {A : Around} {E : Value → Shared → Prop} {s s₀ : Shared} {L : Addr} {l : List (Str × Value)} {g : Vis} {pr : List (Addr × Obj)}
noncomputable def Td (xs : List (List Nat)) (n : Int) (b : Bool) : PyData := .tuple [Ld xs, .int n, .bool b]
theorem tup3_eq {k : Nat} {a b ka kb : Addr} {va vb : List Value} {ma mb : Nat} {u u' : Tok} {n : Int} {c : Bool} {xs : List (List Nat)} {Q : Value → Shared → Prop} (C : Cx w s₀ L l g pr s) (hA : Ok (k + 1) A)
    (ha : g a = some (tupO [.ref ka, .int n u, .bool c])) (hka : g ka = some (lstO va ma)) (hva : IsStrs va xs) (hb : g b = some (tupO [.ref kb, .int n u', .bool c])) (hkb : g kb = some (lstO vb mb)) (hvb : IsStrs vb xs)
    (hc : ∀ x ∈ xs, Cp x) (h : Q (.bool true) s) : wpAny (model P w) A (compareOp .Eq (.ref a) (.ref b)) Q E s := by
  have lay : (Td xs n c).canLay0 = true := by
    show ((Ld xs).canLay0 && _) = true
    rw [lay_Ld hc]; rfl
  have dep : (Td xs n c).depth ≤ 4 := by
    have := dep_Ld xs
    show _ + 1 ≤ 4
    simp only [PyData.depthAll, PyData.depth]
    have h2 := this
    lia
  have ra : Reads s.heap (.ref a) (Td xs n c) _ := .tuple (C.at ha) rfl rfl (.cons (rds_list C hka hva) (.cons (.int _ _) (.cons (.bool _) .nil)))
  have rb : Reads s.heap (.ref b) (Td xs n c) _ := .tuple (C.at hb) rfl rfl (.cons (rds_list C hkb hvb) (.cons (.int _ _) (.cons (.bool _) .nil)))
  refine SeqAt.compareEq_reads ra rb lay lay (room_of hA (n := 0) (by decide) dep) ?_
  have e : PyData.eqv (Td xs n c) (Td xs n c) = true := by
    have h1 := eqv_Ld xs xs
    rw [decide_eq_true rfl] at h1
    show (PyData.eqv (Ld xs) (Ld xs) && _) = true
    rw [h1]
    show ((n == n) && ((c == c) && true)) = true
    simp
  rw [e]; exact h
theorem toldL_len {W : List (List (List Nat))} (hn : W.length ≤ 60) (hl3 : ∀ x ∈ W, ∀ y ∈ x, y.length ≤ 3) : (toldL W).length ≤ 14583 := by
  have h := rows_len W hn hl3 W.length
  rw [List.take_length] at h
  show ((W.map (rowL W)).flatten ++ [46, 13, 10]).length ≤ _
  simp only [List.length_append, List.length_cons, List.length_nil]; lia
end
end PartLW0

section PartKV
open PySem.W.X
section
variable {w : World} {A : Around} {E : Value → Shared → Prop} {h₀ h : Heap} {chg news : List (Addr × Obj)} {g : Array GenState} {d : Drawn} {t : Nat} {os : OsState}
theorem za_frAdd {c : String} {a : Addr} {name : Str} {v : Value} {l : List DictEntry} {n : Nat} {Q : Unit → Shared → Prop} (D : Lg h₀ h chg news) (i : Nat) (hi : news[i]? = some (a, { cls := .type c, data := .dict l.toArray n })) (hk : newKey name l = true)
    (x : ∀ hsh tk h' t', Lg h₀ h' chg (news.set i (a, { cls := .type c, data := .dict (l ++ [(⟨hsh, .str name tk, v⟩ : DictEntry)]).toArray (n + 1) })) → Q () ⟨h', g, d, t', os⟩) : wpAny (model P w) A (nsSet a name v) Q E ⟨h, g, d, t, os⟩ := by
  obtain ⟨hs, hany⟩ := newKey_all hk
  have ho := D.at i hi
  intro Γ p hΓ
  simp only [nsSet, strHash, Sem.wp_bind', Sem.wp_cmd_ask, Sem.wp_pure', Sem.wp_cmd_mkText]
  rw [Sem.wp_loadPart_of _ _ _ p _ _ ho]
  have hr : (l.toArray).any (·.refKey) = false := by
    rw [Array.any_eq_false']; intro e he; obtain ⟨n, t, h⟩ := hs e (by simpa using he); simp [DictEntry.refKey, h]
  simp only [aRefKeyMayBeTheName_eq, aRefKeyMayBeTheNameByArray, hr, Bool.and_false, Bool.false_eq_true, if_false, Sem.wp_cmd_updatePart]
  refine ⟨by rw [ho]; rfl, ?_⟩
  have e := fun hsh key => putName_eq name hsh key v (.type c) none l n #[]
  rw [hany] at e
  have pi : ∀ hsh key, PySem.putIn (·.key.isStr name) (fun e => { e with val := v }) ⟨hsh, key, v⟩ l = l ++ [⟨hsh, key, v⟩] := fun hsh key => by
    unfold PySem.putIn
    have : l.findIdx? (·.key.isStr name) = none := by
      rw [List.findIdx?_eq_none_iff]
      intro x hx
      have := List.any_eq_false.mp hany x hx
      simpa using this
    rw [this]
  have D2 := D.update (i := i) (f := Obj.putName name (if name.cps.isEmpty then 0 else reduceHash (w.params.strHash name.cps)) (.str name t) v) hi (by rw [e]; rfl)
  rw [e, pi] at D2
  exact x _ _ _ _ D2
end
end PartKV

section PartKZ
open PySem.W.X
theorem lookup_mem {a : Addr} {o : Obj} : ∀ {l : Frag}, l.lookup a = some o → (a, o) ∈ l
  | (b, x) :: r, e => by
    rw [List.lookup_cons] at e
    split at e
    · rename_i q; cases e; rw [beq_iff_eq.mp q]; exact .head _
    · exact .tail _ (lookup_mem e)
theorem frag_in {h : Heap} {l : Frag} (H : ∀ p ∈ l, h.get? p.1 = some p.2) : l.In h := fun _ _ e => H _ (lookup_mem e)
theorem enterG {w : World} {A : Around} {s : Shared} {f : Addr} {args : List Value} {fd : FuncData} {body : List Stmt} {binds : List (Str × Value)} {o : Obj} {k} {R : Result → Shared → Prop}
    (kin : (K2 w.params).In s.heap) (hA : Ok k A) (ho : s.heap.get? f = some o) (hd : o.data = .func fd) (hcd : s.heap.CodeRec fd.code fd.qualname)
    (hbody : fd.body = .stmts body) (hbind : bindArgs fd ⟨args, []⟩ = pure binds)
    (hcell : (fd.scope.names.all fun x => !(x.2 == .cell)) = true) (hloc : (binds.all fun x => fd.scope.names.lookup x.1 == some .local) = true)
    (hco : fd.scope.isCoroutine = false) (hgen : fd.scope.isGenerator = false) (hk : fd.scope.kind = .function)
    (h : ∀ s', Cx w s s.heap.objs.size binds.reverse (vis s.heap) [] s' →
      wpAny (model P w) (A.deeper (callEnv fd s.heap.objs.size f)) (execs body (callEnv fd s.heap.objs.size f)) (fun fl s' => R (.ok (.ret (match fl with | .ret v => v | _ => .none))) s') (fun _ _ => False) s') :
    codeAny (model P w) A (.call (.ref f) ⟨args, []⟩) R s := by
  refine codeAny_call_function hA.room ho hd hco hgen hbody hcd (BindsTo.of_eq hbind _ _ _ _ ?_)
  refine wpAny_newFunctionEnv (fun x hx e => ?_) (fun x hx => ?_) (fun h₀ hns₀ hsb₀ => ⟨(noLimit kin).fresh _ hsb₀, codeAny_func ?_⟩) hk
  · have := List.all_eq_true.mp hcell x hx
    rw [e] at this; cases this
  · exact beq_iff_eq.mp (List.all_eq_true.mp hloc x hx)
  · have hv : ∀ b o, s.heap.get? b = some o → h₀.get? b = some o := fun b o e => hsb₀.extBut b o (Nat.ne_of_lt (Heap.lt_size e)) (Heap.get?_push_of_some _ e)
    have hnone : s.heap.get? s.heap.objs.size = none := size_none _
    refine wpAny_mono (h { s with heap := h₀, toks := s.toks + binds.length } ⟨kin, hv, hnone, ⟨_, hns₀, fun x v e => e⟩, ?_, rfl, rfl, rfl, (fun _ h => nomatch h), List.nodup_nil⟩) (fun fl s' q => by cases fl <;> exact q) (fun _ _ q => q.elim)
    funext b
    by_cases hb : b = s.heap.objs.size
    · obtain ⟨o, es, ep, ho, hd, _⟩ := hns₀
      rw [hb, vis_dict ho hd, vis_none hnone]
    · refine vis_congr ((hsb₀.2 b hb).trans (Heap.get?_push_ne _ _ _ hb))
/-- the call of the class, from what stands of it -/
theorem kcall_c {w A s k} {kA nsK mD fI : Addr} {cd : ClassData} {sl : Array (Option Value)} {es : Array DictEntry} {n : Nat} {fd : FuncData} {tm : Tok} {x : Str} {t : Tok} {p1 p2 p3 p4 : Pos} {Q E : Value → Shared → Prop}
    (kin : (K2 w.params).In s.heap) (hA : Ok (k + 3) A) (n1 : kA ≠ nsK) (n2 : kA ≠ mD) (n3 : nsK ≠ mD) (n4 : kA ≠ fI) (n5 : nsK ≠ fI) (n6 : mD ≠ fI)
    (hK : s.heap.get? kA = some { cls := .type "type", data := .cls cd, slots := sl }) (hm : cd.mro = [.ref kA, .type "object"]) (hns : cd.ns = nsK) (hab : cd.abstract = false) (hdel : cd.hasDel = false) (hsn : cd.slotNames = ([Str.ofString "obj"] : List Str))
    (hsl : (sl.toList[4]?).join = some (.builtin "object.__new__"))
    (hN : s.heap.get? nsK = some { cls := .type "dict", data := .dict es n }) (fi : (es.toList.find? (·.key.isStr "__init__")).map (·.val) = some (.ref fI)) (fo : (es.toList.find? (·.key.isStr "obj")).map (·.val) = some (.ref mD))
    (fs : es.toList.find? (·.key.isStr "__setattr__") = none) (hrk : es.toList.any (·.refKey) = false)
    (hM : s.heap.get? mD = some { cls := .type "member_descriptor", data := .fields #[.str "obj" tm, .ref kA, .builtin "proto.slot", .builtin "proto.slot#set", .int 0 0] })
    (hF : s.heap.get? fI = some { cls := .type "function", data := .func fd }) (hcd : s.heap.CodeRec fd.code fd.qualname)
    (hbody : fd.body = .stmts [.Assign [.Attribute (.Name (Str.ofString "self") p1) (Str.ofString "obj") p2] (.Name (Str.ofString "obj") p3) p4]) (hbind : ∀ a, bindArgs fd ⟨[.ref a, .str x t], []⟩ = pure ([("self", .ref a), ("obj", .str x t)] : List (Str × Value)))
    (hsc : fd.scope.names = ([("self", .local), ("obj", .local)] : List (Str × NameKind))) (hco : fd.scope.isCoroutine = false) (hgen : fd.scope.isGenerator = false) (hk : fd.scope.kind = .function)
    (hQ : ∀ a d h' t', (∀ b o, s.heap.get? b = some o → h'.get? b = some o) → s.heap.get? a = none → h'.get? a = some (instO kA d x t) → Q (.ref a) { s with heap := h', toks := t' }) :
    wpAny (model P w) A (call (.ref kA) [.str x t] []) Q E s := by
  obtain ⟨K, hKd⟩ : ∃ K : Frag, K = [(kA, { cls := .type "type", data := .cls cd, slots := sl }), (nsK, { cls := .type "dict", data := .dict es n }), (mD, { cls := .type "member_descriptor", data := .fields #[.str "obj" tm, .ref kA, .builtin "proto.slot", .builtin "proto.slot#set", .int 0 0] }), (fI, { cls := .type "function", data := .func fd })] := ⟨_, rfl⟩
  have X : K.In s.heap := by
    rw [hKd]
    refine frag_in fun p hp => ?_
    simp only [List.mem_cons, List.not_mem_nil, or_false] at hp
    rcases hp with rfl | rfl | rfl | rfl
    · exact hK
    · exact hN
    · exact hM
    · exact hF
  have b1 := beq_eq_false_iff_ne.mpr (Ne.symm n1)
  have b1' := beq_eq_false_iff_ne.mpr n1
  have l1 : K.lookup kA = some { cls := .type "type", data := .cls cd, slots := sl } := by rw [hKd]; simp [List.lookup]
  have l2 : K.lookup nsK = some { cls := .type "dict", data := .dict es n } := by rw [hKd]; simp [List.lookup, beq_eq_false_iff_ne.mpr (Ne.symm n1)]
  have l3 : K.lookup mD = some { cls := .type "member_descriptor", data := .fields #[.str "obj" tm, .ref kA, .builtin "proto.slot", .builtin "proto.slot#set", .int 0 0] } := by
    rw [hKd]; simp [List.lookup, beq_eq_false_iff_ne.mpr (Ne.symm n2), beq_eq_false_iff_ne.mpr (Ne.symm n3)]
  have l4 : K.lookup fI = some { cls := .type "function", data := .func fd } := by
    rw [hKd]; simp [List.lookup, beq_eq_false_iff_ne.mpr (Ne.symm n4), beq_eq_false_iff_ne.mpr (Ne.symm n5), beq_eq_false_iff_ne.mpr (Ne.symm n6)]
  clear hKd
  have hc : clsIn K kA = some cd := by unfold clsIn; rw [l1]
  have own : ∀ name v, (es.toList.find? (·.key.isStr name)).map (·.val) = some v → findIn K (.ref kA) name = some (some v) := by
    intro name v hv
    obtain ⟨e, he, rfl⟩ := Option.map_eq_some_iff.mp hv
    simp only [findIn, l1, hm, alongIn, ownIn, nsIn, hns, l2, he]
  have up : ∀ name v, es.toList.find? (·.key.isStr name) = none → fastBuiltinOwn "object" name = some v → findIn K (.ref kA) name = some (some v) := by
    intro name v hv hb
    simp only [findIn, l1, hm, alongIn, ownIn, nsIn, hns, l2, hv, hrk, hb, Bool.false_eq_true, if_false]
  have ty : ∀ a o, K.lookup a = some o → typeIn K (.ref a) = some o.cls := fun a o e => by show (K.lookup a).map (·.cls) = _; rw [e]; rfl
  have hmk : makesIn K kA = true := by
    have s1 : specialIn K (.ref kA) "__call__" = some (some (.builtin "type.__call__")) := by
      show (typeIn K (.ref kA)).bind _ = _
      rw [ty _ _ l1]; kernel_rfl
    have s2 : instIn K (.ref kA) (.type "type") = some true := by
      show (typeIn K (.ref kA)).bind _ = _
      rw [ty _ _ l1]; kernel_rfl
    unfold makesIn
    rw [l1]
    dsimp only
    rw [hab, hdel, hsl, hm, s1, s2]
    simp
  have hI := own "__init__" _ fi
  have hT4 : typeIn K (.ref fI) = some (.type "function") := ty _ _ l4
  have hTM : typeIn K (.ref mD) = some (.type "member_descriptor") := ty _ _ l3
  have hset := up "__setattr__" _ fs (by kernel_rfl : fastBuiltinOwn "object" "__setattr__" = some (.builtin "object.__setattr__"))
  have hov : plainOver K kA = true := by unfold plainOver; rw [hc]; simp [onlyObject, hm]
  have htk : takerIn K kA "obj" = some (some (.ref mD)) := by
    have q : takesIn K (.ref mD) = some true := by
      have : specialIn K (.ref mD) "__set__" = some (some (.builtin "member_descriptor.__set__")) := by
        show (typeIn K (.ref mD)).bind _ = _
        rw [hTM]; kernel_rfl
      unfold takesIn; rw [this]
    unfold takerIn; rw [own "obj" _ fo]; simp [q]
  have hsi : slotIn K mD kA = some 0 := by
    have r : recIn K mD "member_descriptor" = some [.str "obj" tm, .ref kA, .builtin "proto.slot", .builtin "proto.slot#set", .int 0 0] := by unfold recIn; rw [l3]; simp
    unfold slotIn; rw [r, hc]; simp [hm, hsn]
  obtain ⟨h, g, d, tk, os⟩ := s
  dsimp only at *
  refine wpAny_call (make_core (makes_of X hmk) (looks_findIn X hI) (fun self => bind_fn X self hT4) (.inl rfl) ?_)
  have hx : ((h.push emptyDict).push (instObj kA h.objs.size)).get? (h.objs.size + 1) = some (instObj kA h.objs.size) := by heap_get
  have hdx : ((h.push emptyDict).push (instObj kA h.objs.size)).get? h.objs.size = some emptyDict := by heap_get
  have kp : ∀ b o, h.get? b = some o → ((h.push emptyDict).push (instObj kA h.objs.size)).get? b = some o := fun b o e => Heap.get?_push_of_some _ (Heap.get?_push_of_some _ e)
  have hnx : h.get? (h.objs.size + 1) = none := by
    cases q : h.get? (h.objs.size + 1) with
    | none => rfl
    | some o => exact absurd (Heap.lt_size q) (Nat.not_lt.mpr (Nat.le_succ _))
  have hAu : Ok (k + 1) (A.under (Code.builtin "type.__call__" { pos := [Value.ref kA, Value.str x t] })) := by
    refine ⟨hA.hd, ?_, ?_⟩
    · have := hA.dp
      show A.depth + 1 + (k + 1) ≤ 900
      lia
    · have := hA.un
      have q0 : (Code.builtin "type.__call__" { pos := [Value.ref kA, Value.str x t] }).cUnits = 1 := rfl
      show A.units + (Code.builtin "type.__call__" { pos := [Value.ref kA, Value.str x t] }).cUnits + 10 * (k + 1) ≤ 9000
      rw [q0]
      lia
  refine enterG (k := k + 1) (fun a o e => kp _ _ (kin a o e)) hAu (kp _ _ hF) rfl (hcd.keeps kp) hbody (hbind _) (by rw [hsc]; rfl) (by rw [hsc]; rfl) hco hgen hk fun s' C => ?_
  have k1 : (callEnv fd ((h.push emptyDict).push (instObj kA h.objs.size)).objs.size fI).kindOf "self" = some .local := by show fd.scope.names.lookup _ = _; rw [hsc]; rfl
  have k2 : (callEnv fd ((h.push emptyDict).push (instObj kA h.objs.size)).objs.size fI).kindOf "obj" = some .local := by show fd.scope.names.lookup _ = _; rw [hsc]; rfl
  refine wpAny_execs_cons (plainObj_wpAny_Assign_Attribute (nm_l C rfl hk k2 rfl rfl (nm_l C rfl hk k1 rfl rfl ?_)) rfl)
  have kp2 : ∀ b o, h.get? b = some o → s'.heap.get? b = some o := fun b o e => C.keep _ _ (kp _ _ e)
  have X' : K.In s'.heap := X.keeps kp2
  have I : InstAt s'.heap (h.objs.size + 1) (instObj kA h.objs.size) kA (some emptyDict) := ⟨C.keep _ _ hx, rfl, rfl, C.keep _ _ hdx⟩
  obtain ⟨m, hn, _⟩ := C.loc
  have hsz : ((h.push emptyDict).push (instObj kA h.objs.size)).objs.size = h.objs.size + 2 := by rw [Heap.size_push, Heap.size_push]
  have F : Fr h ((h.push emptyDict).push (instObj kA h.objs.size)).objs.size s'.heap m := ⟨hn, kp2, by rw [hsz]; exact Nat.le_add_right _ 2⟩
  have N : News h ((h.push emptyDict).push (instObj kA h.objs.size)).objs.size s'.heap ([] ++ (h.objs.size + 1, instObj kA h.objs.size) :: []) := by
    intro p hp
    rw [List.nil_append, List.mem_singleton] at hp
    rw [hp]
    exact ⟨C.keep _ _ hx, by rw [hsz]; exact Nat.ne_of_lt (Nat.lt_succ_self _), hnx⟩
  refine set_plain X' I hset (osa_descr (s := { s' with toks := s'.toks + 1 }) KF.slot_mset X' I hov htk hTM (slot_set (s := { s' with toks := s'.toks + 1 }) F N X' I hsi (by decide) (fun _ hp => nomatch hp) (fun _ hp => nomatch hp) rfl rfl fun h' F' N' => ?_))
  have hg := C.gens
  have hd := C.drawn
  have ho := C.os
  obtain ⟨h1, g1, d1, t1, o1⟩ := s'
  dsimp only at hg hd ho
  subst hg hd ho
  refine wpAny_execs_nil ?_
  refine ⟨rfl, ?_⟩
  exact hQ _ h.objs.size h' _ F'.keep hnx (N' _ (.head _)).1
end PartKZ

section PartKW
open PySem.W.X
open PySem.Builtin
section
local macro_rules | `(tactic| x_close) => `(tactic| exact hQ _)
theorem mget_c {w : World} {A : Around} {k : Nat} {s : Shared} {a d kA nsK bT mD : Addr} {x : Str} {t tm : Tok} {qn : Str} {tK t2 : Tok} {Q E : Value → Shared → Prop} (o : Ok (k+1) A) (kin : (K2 w.params).In s.heap)
    (hK : s.heap.get? kA = some { cls := .type "type", data := .cls { name := "K", bases := [.type "object"], mro := [.ref kA, .type "object"], ns := nsK, qualname := qn, hasDict := false, slotNames := ["obj"], hasDel := false }, slots := #[some (.ref bT), none, some (.str "K" tK), some (.str qn t2), some (.builtin "object.__new__"), some (.bool false)] })
    (hM : s.heap.get? mD = some { cls := .type "member_descriptor", data := .fields #[.str "obj" tm, .ref kA, .builtin "proto.slot", .builtin "proto.slot#set", .int 0 0] })
    (ha : s.heap.get? a = some { cls := .ref kA, dict := some d, slots := #[some (.str x t)] })
    (hQ : ∀ t', Q (.str x t) { s with toks := t' }) :
    wpAny (model P w) A (call (.builtin "member_descriptor.__get__") [.ref mD, .ref a, .ref kA]) Q E s := by
  refine low o ?_
  x_run
end
open PySem.Builtin.ObjectAttr
theorem look_none {M : Model} {h : Heap} {kA nsK : Addr} {cd : ClassData} {sl : Array (Option Value)} {es : Array DictEntry} {n : Nat} {name : Str} (hne : kA ≠ nsK) (hK : h.get? kA = some { cls := .type "type", data := .cls cd, slots := sl }) (hm : cd.mro = [.ref kA, .type "object"]) (hns : cd.ns = nsK) (hN : h.get? nsK = some { cls := .type "dict", data := .dict es n })
    (hf : es.toList.find? (·.key.isStr name) = none) (hr : es.toList.any (·.refKey) = false) (ho : fastBuiltinOwn "object" name = none) : Looks M h (typeLookup (.ref kA) name) none := by
  refine looks_findIn (pair_in hK hN) ?_
  have h1 : (nsK == kA) = false := beq_eq_false_iff_ne.mpr (Ne.symm hne)
  simp only [findIn, List.lookup, beq_self_eq_true, hm, alongIn, ownIn, nsIn, hns, h1, hf, hr, ho, Bool.false_eq_true, if_false]
theorem get_m {w A s} {a kA mD : Addr} {ex : Bool} {oa om : Obj} {Q E : Value → Shared → Prop} (ha : s.heap.get? a = some oa) (hc : oa.cls = .ref kA) (hM : s.heap.get? mD = some om) (hcm : om.cls = .type "member_descriptor")
    (hga : Looks (model P w) s.heap (typeLookup (.ref kA) "__getattribute__") (some (.builtin "object.__getattribute__"))) (hgo : Looks (model P w) s.heap (typeLookup (.ref kA) "obj") (some (.ref mD))) (hgn : Looks (model P w) s.heap (typeLookup (.ref kA) "__getattr__") none)
    (h : ∀ E', wpAny (model P w) A.in1 (call (.builtin "member_descriptor.__get__") [.ref mD, .ref a, .ref kA]) (fun v s' => handedIn v = true ∧ Q v s') E' { s with toks := s.toks + 1 }) : wpAny (model P w) A (getAttr (.ref a) "obj" ex) Q E s := by
  obtain ⟨hh, g, d, tk, os⟩ := s
  have Ta : Looks (model P w) hh (typeOf (.ref a)) (.ref kA) := hc ▸ (Looks.ld ha).andThen .now
  have Tm : Looks (model P w) hh (typeOf (.ref mD)) (.type "member_descriptor") := hcm ▸ (Looks.ld hM).andThen .now
  have sp : ∀ n r, typeLookup (.type "member_descriptor") n = pure r → Looks (model P w) hh (specialOf (.ref mD) n) r := fun n r e => Tm.andThen (Looks.of_pure e)
  have s1 := sp "__get__" (some (.builtin "member_descriptor.__get__")) (by rw [typeLookup_type, builtinLookup_eq_fast]; kernel_rfl)
  have s2 := sp "__set__" (some (.builtin "member_descriptor.__set__")) (by rw [typeLookup_type, builtinLookup_eq_fast]; kernel_rfl)
  have ts : Looks (model P w) hh (takesStores (.ref mD)) true := s2.andThen .now
  have dd : Looks (model P w) hh (dataDescriptor? (some (.ref mD)) (some (.builtin "member_descriptor.__get__"))) (some (.builtin "member_descriptor.__get__", .ref mD)) := ts.andThen .now
  have fd : Looks (model P w) hh (find (.ref a) (.ref kA) "obj") (.bind (.builtin "member_descriptor.__get__") (.ref mD)) := hgo.andThen (s1.andThen (dd.andThen (Looks.tag .now)))
  unfold getAttr getAttrBy
  refine wpAny_bind (wpAny_mkText (wpAny_holding (wpAny_bind (Ta.at (wpAny_bind (hga.at ?_))))))
  show wpAny _ _ (getAttrEveryday _ _ _) _ _ _
  unfold getAttrEveryday
  refine wpAny_bind (wpAny_onRaise (wpAny_runValue (codeAny_builtin F.plainObj_entry_getattr_hooked ?_)))
  refine wpAny_bind (wpAny_pure (wpAny_bind (Ta.at (wpAny_bind (fd.at (wpAny_bind (hgn.at ?_)))))))
  show wpAny _ _ (holding [_] (call (.builtin "member_descriptor.__get__") [.ref mD, .ref a, .ref kA]) >>= ret) _ _ _
  refine wpAny_bind (wpAny_holding (wpAny_mono (h _) (fun v s' q => wpAny_pure ?_) fun _ _ q => q))
  show wpAny _ _ (handedOut v) _ _ _
  rw [handedOut_of q.1]
  exact wpAny_pure q.2
end PartKW

section PartKR
open PySem.Builtin
open PySem.W.X
section
local macro_rules | `(tactic| x_close) => `(tactic| (refine hQ _ _ _ _ (mem_keep (by assumption)) (Mem.at (by assumption) 0 _ _ rfl) ((Mem.nw (by assumption) _ (.head _)).2)))
theorem coll1 {w : World} {A : Around} {k : Nat} {s : Shared} {a : Addr} {t : Tok} {Q : Result → Shared → Prop} {E : Value → Shared → Prop} (o : Ok (k+1) A) (kin : (K2 w.params).In s.heap)
    (ha : s.heap.get? a = some { cls := .type "list", data := .seq #[.str "obj" t] })
    (hQ : ∀ b n h t', (∀ c o, s.heap.get? c = some o → h.get? c = some o) → h.get? b = some { cls := .type "list", data := .seq #[.str "obj" t] n } → s.heap.get? b = none → Q (.ok (.ret (.ref b))) { s with heap := h, toks := t' }) :
    wpAny (model P w) A (Sem.call (Code.builtin "proto.collect" ⟨[.ref a], []⟩) none false [] Sem.pure) Q E s := by
  refine low o ?_
  x_run
end
theorem readK {w : World} {A : Around} {k : Nat} {h0 : Heap} {g9 : Array GenState} {d9 : Drawn} {t9 : Nat} {os9 : OsState} {Q : Slots.Plan → Shared → Prop} {E : Value → Shared → Prop} {bs : List Value}
    {aS : Addr} {ts : Tok} {y4 : Int} {k4 : Tok} {es : Array DictEntry} (hA : Ok (k+1) A) (kin : (K2 w.params).In h0) (hS : h0.get? aS = some { cls := .type "list", data := .seq #[.str "obj" ts] })
    (hbs : bs = [.type "object"]) (he : es.find? (·.key.isStr "__slots__") = some ⟨y4, .str "__slots__" k4, .ref aS⟩) (hno : es.any (·.key.isStr "obj") = false)
    (hQ : ∀ a n h' t', (∀ c o, h0.get? c = some o → h'.get? c = some o) → h'.get? a = some { cls := .type "list", data := .seq #[.str "obj" ts] n } → h0.get? a = none → Q { names := ["obj"], dict := false, weak := false, inherited := [] } ⟨h', g9, d9, t', os9⟩) :
    wpAny (model P w) A (Slots.read "K" bs es) Q E ⟨h0, g9, d9, t9, os9⟩ := by
  subst hbs
  have D9 := Lg.start h0
  unfold Slots.read
  with_reducible refine wpAny_bind ?_
  ((with_reducible show wpAny _ _ (Slots.bestBase _) _ _ _); refine wpAny_of_eq best_obj ?_)
  with_reducible refine wpAny_bind ?_
  ((with_reducible show wpAny _ _ (Slots.slotNamesOf _) _ _ _); refine wpAny_of_eq slotn_obj ?_)
  with_reducible refine wpAny_bind ?_
  ((with_reducible show wpAny _ _ (Slots.givesDict _) _ _ _); refine wpAny_of_eq gdict_obj ?_)
  with_reducible refine wpAny_bind ?_
  ((with_reducible show wpAny _ _ (Slots.givesWeak _) _ _ _); refine wpAny_of_eq gweak_obj ?_)
  with_reducible refine wpAny_bind ?_
  ((with_reducible show wpAny _ _ (Slots.varSize _) _ _ _); refine wpAny_of_eq var_obj ?_)
  rw [he]
  with_reducible refine wpAny_bind ?_
  with_reducible refine wpAny_rule ?_
  with_reducible refine wpAny_bind ?_
  conv => arg 3; whnf
  ((with_reducible show wpAny _ _ (.load _ _ _) _ _ _); ((with_reducible refine' za_load ?ho ?_); (case ho => exact Lg.old D9 (by assumption) rfl)))
  with_reducible refine zb ?_
  with_reducible refine x_pure ?_
  with_reducible refine wpAny_pure ?_
  ((with_reducible refine zi_f ?hc ?_); (case hc => first | decide | exact Bool.false_ne_true))
  with_reducible refine wpAny_bind ?_
  unfold collect
  with_reducible refine wpAny_bind ?_
  conv => arg 3; whnf
  refine ca ?_
  refine coll1 hA kin hS fun a9 n9 h9 t9 kp e9 n9 => ?_
  replace D9 := D9.one kp e9 n9
  with_reducible refine zb ?_
  with_reducible refine x_pure ?_
  with_reducible refine wpAny_pure ?_
  with_reducible refine wpAny_bind ?_
  conv => arg 3; whnf
  ((with_reducible show wpAny _ _ (.load _ _ _) _ _ _); ((with_reducible refine' za_load ?ho ?_); (case ho => exact Lg.at D9 _ (ixr 0 rfl))))
  with_reducible refine x_pure ?_
  with_reducible refine wpAny_pure ?_
  ((with_reducible refine zi_t ?hc ?_); (case hc => first | decide | exact (rfl : true = true)))
  with_reducible refine wpAny_bind ?_
  ((with_reducible show wpAny _ _ (Slots.varSize _) _ _ _); refine wpAny_of_eq var_obj ?_)
  ((with_reducible refine zi_f ?hc ?_); (case hc => first | decide | exact Bool.false_ne_true))
  with_reducible refine wpAny_bind ?_
  ((with_reducible show wpAny _ _ (forIn _ _ _) _ _ _); first | refine zf_cons' (rfl : _ = _ :: _) ?_ | refine zf_nil' (rfl : _ = []) ?_)
  with_reducible refine wpAny_bind ?_
  with_reducible refine wpAny_bind ?_
  conv => arg 3; whnf
  with_reducible refine x_pure ?_
  with_reducible refine wpAny_bind ?_
  with_reducible refine wpAny_pure ?_
  ((with_reducible show wpAny _ _ _ _ _ _); (with_reducible (conv => arg 3; whnf)))
  rw [show Slots.isIdentifier (Str.ofString "obj") = some true from by kernel_rfl]
  with_reducible refine wpAny_bind ?_
  with_reducible refine wpAny_pure ?_
  ((with_reducible refine zi_f ?hc ?_); (case hc => first | decide | exact Bool.false_ne_true))
  ((with_reducible refine zi_f ?hc ?_); (case hc => first | decide | exact Bool.false_ne_true))
  ((with_reducible refine zi_f ?hc ?_); (case hc => first | decide | exact Bool.false_ne_true))
  with_reducible refine wpAny_pure ?_
  ((with_reducible show wpAny _ _ (forIn _ _ _) _ _ _); first | refine zf_cons' (rfl : _ = _ :: _) ?_ | refine zf_nil' (rfl : _ = []) ?_)
  with_reducible refine wpAny_bind ?_
  refine zf_arr (l := [Str.ofString "obj"]) rfl ?_
  ((with_reducible show wpAny _ _ (forIn _ _ _) _ _ _); first | refine zf_cons' (rfl : _ = _ :: _) ?_ | refine zf_nil' (rfl : _ = []) ?_)
  with_reducible refine wpAny_bind ?_
  ((with_reducible refine zi_f ?hc ?_); (case hc => first | decide | exact Bool.false_ne_true))
  ((with_reducible show wpAny _ _ _ _ _ _); (with_reducible (conv => arg 3; whnf)))
  rw [show Slots.mangle (Str.ofString "K") (Str.ofString "obj") = Str.ofString "obj" from by kernel_rfl, hno]
  ((with_reducible refine zi_f ?hc ?_); (case hc => first | decide | exact Bool.false_ne_true))
  ((with_reducible refine zi_f ?hc ?_); (case hc => first | decide | exact Bool.false_ne_true))
  with_reducible refine wpAny_pure ?_
  ((with_reducible show wpAny _ _ (forIn _ _ _) _ _ _); first | refine zf_cons' (rfl : _ = _ :: _) ?_ | refine zf_nil' (rfl : _ = []) ?_)
  with_reducible refine wpAny_bind ?_
  ((with_reducible show wpAny _ _ (forIn _ _ _) _ _ _); first | refine zf_cons' (rfl : _ = _ :: _) ?_ | refine zf_nil' (rfl : _ = []) ?_)
  with_reducible refine wpAny_bind ?_
  ((with_reducible refine zi_f ?hc ?_); (case hc => first | decide | exact Bool.false_ne_true))
  with_reducible refine wpAny_pure ?_
  ((with_reducible show wpAny _ _ (forIn _ _ _) _ _ _); first | refine zf_cons' (rfl : _ = _ :: _) ?_ | refine zf_nil' (rfl : _ = []) ?_)
  with_reducible refine wpAny_pure ?_
  exact hQ _ _ _ _ kp e9 n9
end PartKR

section PartKS
open PySem.Builtin
open PySem.W.X
section
local macro_rules | `(tactic| x_close) => `(tactic| (refine hQ _ _ _ (mem_keep (by assumption)) (Mem.at (by assumption) 0 _ _ rfl) ((Mem.nw (by assumption) _ (.head _)).2)))
theorem sup1 {w : World} {A : Around} {k : Nat} {s : Shared} {kA nsK bT : Addr} {qn : Str} {tK t2 : Tok} {Q : Result → Shared → Prop} {E : Value → Shared → Prop} (o : Ok (k+1) A) (kin : (K2 w.params).In s.heap)
    (hK : s.heap.get? kA = some { cls := .type "type", data := .cls { name := "K", bases := [.type "object"], mro := [.ref kA, .type "object"], ns := nsK, qualname := qn, hasDict := false, slotNames := ["obj"], hasDel := false }, slots := #[some (.ref bT), none, some (.str "K" tK), some (.str qn t2), some (.builtin "object.__new__"), some (.bool false)] })
    (hQ : ∀ b h t', (∀ c o, s.heap.get? c = some o → h.get? c = some o) → h.get? b = some { cls := .type "super", data := .fields #[.ref kA, .ref kA, .ref kA] } → s.heap.get? b = none → Q (.ok (.ret (.ref b))) { s with heap := h, toks := t' }) :
    wpAny (model P w) A (Sem.call (Code.call (.type "super") ⟨[.ref kA, .ref kA], []⟩) none false [] Sem.pure) Q E s := by
  refine low o ?_
  x_run
theorem cm1 {w : World} {A : Around} {k : Nat} {s : Shared} {kA nsK bT : Addr} {qn : Str} {tK t2 : Tok} {Q : Result → Shared → Prop} {E : Value → Shared → Prop} (o : Ok (k+1) A) (kin : (K2 w.params).In s.heap)
    (hK : s.heap.get? kA = some { cls := .type "type", data := .cls { name := "K", bases := [.type "object"], mro := [.ref kA, .type "object"], ns := nsK, qualname := qn, hasDict := false, slotNames := ["obj"], hasDel := false }, slots := #[some (.ref bT), none, some (.str "K" tK), some (.str qn t2), some (.builtin "object.__new__"), some (.bool false)] })
    (hQ : ∀ b h t', (∀ c o, s.heap.get? c = some o → h.get? c = some o) → h.get? b = some { cls := .type "builtin_function_or_method", data := .fields #[.builtin "object.__init_subclass__", .ref kA] } → s.heap.get? b = none → Q (.ok (.ret (.ref b))) { s with heap := h, toks := t' }) :
    wpAny (model P w) A (Sem.call (Code.call (.builtin "classmethod_descriptor.__get__") ⟨[.builtin "object.__init_subclass__", .none, .ref kA], []⟩) none false [] Sem.pure) Q E s := by
  refine low o ?_
  x_run
end
theorem own_obj_isub : builtinOwn "object" "__init_subclass__" = some (.builtin "object.__init_subclass__") := by kernel_rfl
theorem entry_superget : entryFor table "super.__getattribute__" = some Builtin.«super.__getattribute__» := entryFor_of_tree (by kernel_rfl)
section
local macro_rules | `(tactic| x_close) => `(tactic| (exact hQ _))
theorem is1 {w : World} {A : Around} {k : Nat} {s : Shared} {b kA nsK bT : Addr} {tK t2 : Tok} {Q : Result → Shared → Prop} {E : Value → Shared → Prop} (o : Ok (k+1) A) (kin : (K2 w.params).In s.heap)
    (hb : s.heap.get? b = some { cls := .type "builtin_function_or_method", data := .fields #[.builtin "object.__init_subclass__", .ref kA] })
    (hK : s.heap.get? kA = some { cls := .type "type", data := .cls { name := "K", bases := [.type "object"], mro := [.ref kA, .type "object"], ns := nsK, qualname := "cmp_to_key.<locals>.K", hasDict := false, slotNames := ["obj"], hasDel := false }, slots := #[some (.ref bT), none, some (.str "K" tK), some (.str "cmp_to_key.<locals>.K" t2), some (.builtin "object.__new__"), some (.bool false)] })
    (hQ : ∀ t', Q (.ok (.ret .none)) { s with toks := t' }) :
    wpAny (model P w) A (Sem.call (Code.call (.ref b) ⟨[], []⟩) none false [] Sem.pure) Q E s := by
  refine low o ?_
  x_run
end
theorem look_super_ga : typeLookup (.type "super") "__getattribute__" = pure (some (.builtin "super.__getattribute__")) := by rw [typeLookup_type, builtinLookup_eq_fast]; kernel_rfl
theorem look_cmd_get : typeLookup (.type "classmethod_descriptor") "__get__" = pure (some (.builtin "classmethod_descriptor.__get__")) := by rw [typeLookup_type, builtinLookup_eq_fast]; kernel_rfl
theorem slot_superget : Slot "super" "__getattribute__" "super.__getattribute__" :=
  .of (owner := "super") (n := "__getattribute__") look_super_ga (by decide +kernel) (by decide +kernel) (by decide +kernel)
    (by first | exact .inl (by decide +kernel) | exact .inr (by decide +kernel)) (by rw [isSubtype_type]; kernel_rfl)
theorem opaq {w : World} {A : Around} {E : Value → Shared → Prop} {s : Shared} {Q : Bool → Shared → Prop} (kin : (K2 w.params).In s.heap) (h : Q false s) : wpAny (model P w) A anyOpaqueLoaded Q E s :=
  Looks.here (Looks.of_peek (M := model P w) kin (r := false) (by kernel_rfl)) h
theorem type_isub : typeOf (.builtin "object.__init_subclass__") = pure (.type "classmethod_descriptor") := by show builtinType _ = _; rw [builtinType_eq_fast]; kernel_rfl
theorem Ok.mark {k A} (o : Ok k A) : Ok k (A.mark none) := ⟨o.hd, o.dp, o.un⟩
theorem args_superget (a b : Value) : argsOk "super.__getattribute__" ⟨[a, b], []⟩ := by unfold argsOk; kernel_rfl
theorem sg1 {w : World} {A : Around} {k : Nat} {h0 : Heap} {g9 : Array GenState} {d9 : Drawn} {t9 : Nat} {os9 : OsState} {Q : Result → Shared → Prop} {E : Value → Shared → Prop}
    {su kA nsK bT : Addr} {qn : Str} {tK t2 t : Tok} (hA : Ok (k+3) A) (kin : (K2 w.params).In h0)
    (hsu : h0.get? su = some { cls := .type "super", data := .fields #[.ref kA, .ref kA, .ref kA] })
    (hK : h0.get? kA = some { cls := .type "type", data := .cls { name := "K", bases := [.type "object"], mro := [.ref kA, .type "object"], ns := nsK, qualname := qn, hasDict := false, slotNames := ["obj"], hasDel := false }, slots := #[some (.ref bT), none, some (.str "K" tK), some (.str qn t2), some (.builtin "object.__new__"), some (.bool false)] })
    (hQ : ∀ b h t', (∀ c o, h0.get? c = some o → h.get? c = some o) → h.get? b = some { cls := .type "builtin_function_or_method", data := .fields #[.builtin "object.__init_subclass__", .ref kA] } → h0.get? b = none → Q (.ok (.ret (.ref b))) ⟨h, g9, d9, t', os9⟩) :
    wpAny (model P w) A (Sem.call (Code.call (.builtin "super.__getattribute__") ⟨[.ref su, .str "__init_subclass__" t], []⟩) none true [] Sem.pure) Q E ⟨h0, g9, d9, t9, os9⟩ := by
  have D9 := Lg.start h0
  refine x_call (codeAny_call_builtin (by decide +kernel) entry_superget (slot_superget.check _ _ _ _ _ _ _ _ ⟨_, hsu, rfl⟩ (args_superget _ _) ?_)) (by intro h; cases h)
  unfold Builtin.«super.__getattribute__»
  with_reducible refine wpAny_bind ?_
  refine wpAny_of_eq (a := some _) (rfl : asStr? (Value.str _ _) = _) ?_
  ((with_reducible refine zi_f ?hc ?_); (case hc => first | decide | exact Bool.false_ne_true))
  with_reducible refine wpAny_bind ?_
  refine wpAny_of_eq (a := some _) (rfl : asStr? (Value.str _ _) = _) ?_
  with_reducible refine wpAny_bind ?_
  refine wpAny_field (x := .ref kA) hsu rfl rfl ?_
  with_reducible refine wpAny_bind ?_
  refine wpAny_field (x := .ref kA) hsu rfl rfl ?_
  with_reducible refine wpAny_bind ?_
  refine wpAny_field (x := .ref kA) hsu rfl rfl ?_
  ((with_reducible refine zi_f ?hc ?_); (case hc => first | decide | exact Bool.false_ne_true))
  with_reducible refine wpAny_bind ?_
  unfold notOfAnOpaqueClass opaqueClassAbove
  with_reducible refine wpAny_bind ?_
  with_reducible refine wpAny_bind ?_
  refine opaq kin ?_
  ((with_reducible refine zi_t ?hc ?_); (case hc => first | decide | exact (rfl : true = true)))
  with_reducible refine wpAny_pure ?_
  with_reducible refine wpAny_pure ?_
  ((with_reducible refine zi_f ?hc ?_); (case hc => first | decide | exact Bool.false_ne_true))
  with_reducible refine wpAny_bind ?_
  conv => arg 3; whnf
  ((with_reducible show wpAny _ _ (.load _ _ _) _ _ _); ((with_reducible refine' za_load ?ho ?_); (case ho => exact Lg.old D9 (by assumption) rfl)))
  with_reducible refine zb ?_
  with_reducible refine zb ?_
  with_reducible refine x_pure ?_
  with_reducible refine wpAny_pure ?_
  with_reducible refine wpAny_pure ?_
  with_reducible refine wpAny_bind ?_
  refine zf_cons' (x := .type "object") (r := []) (by show List.drop 1 (List.dropWhile (fun x => x != Value.ref kA) [Value.ref kA, Value.type "object"]) = _; simp [List.dropWhile]) ?_
  with_reducible refine wpAny_bind ?_
  with_reducible refine wpAny_bind ?_
  unfold classOwn
  with_reducible refine wpAny_pure ?_
  rw [own_obj_isub]
  with_reducible refine wpAny_bind ?_
  refine wpAny_of_eq type_isub ?_
  with_reducible refine wpAny_bind ?_
  refine wpAny_of_eq look_cmd_get ?_
  with_reducible refine wpAny_bind ?_
  with_reducible refine wpAny_holding ?_
  rw [show (if (Value.ref kA == Value.ref kA) = true then Value.none else Value.ref kA) = Value.none from by simp]
  conv => arg 3; whnf
  refine ca ?_
  refine cm1 (k := k+1) hA.mark.in1 kin hK fun b h9 t9 kp e9 n9 => ?_
  with_reducible refine zb ?_
  with_reducible refine x_pure ?_
  with_reducible refine wpAny_pure ?_
  with_reducible refine wpAny_bind ?_
  conv => arg 3; whnf
  with_reducible refine x_pure ?_
  with_reducible refine wpAny_pure ?_
  with_reducible refine wpAny_pure ?_
  with_reducible refine wpAny_pure ?_
  with_reducible refine x_pure ?_
  exact hQ _ _ _ kp e9 n9
theorem Lg.in2 {w : World} {h₀ h : Heap} {news : List (Addr × Obj)} (D : Lg h₀ h [] news) (kin : (K2 w.params).In h₀) : (K2 w.params).In h := fun a o e => D.keep a o (kin a o e) (fun p hp => nomatch hp)
theorem look_type_init : typeLookup (.type "type") "__init__" = pure (some (.builtin "type.__init__")) := by rw [typeLookup_type, builtinLookup_eq_fast]; kernel_rfl
theorem slot_type_init : Slot "type" "__init__" "type.__init__" :=
  .of (owner := "type") (n := "__init__") look_type_init (by decide +kernel) (by decide +kernel) (by decide +kernel)
    (by first | exact .inl (by decide +kernel) | exact .inr (by decide +kernel)) (by rw [isSubtype_type]; kernel_rfl)
theorem entry_type_init : entryFor table "type.__init__" = some Builtin.«type.__init__» := entryFor_of_tree (by kernel_rfl)
theorem args_type_init (a b c d : Value) : argsOk "type.__init__" ⟨[a, b, c, d], []⟩ := by unfold argsOk; kernel_rfl
end PartKS

section PartKT
open PySem.Builtin
open PySem.W.X
set_option maxHeartbeats 20000000 in
theorem typeK {w : World} {A : Around} {k : Nat} {h0 : Heap} {g9 : Array GenState} {d9 : Drawn} {t9 : Nat} {os9 : OsState} {Q : Value → Shared → Prop} {E : Value → Shared → Prop}
    {bT nsA aS f1 f2 f3 f4 f5 f6 sA : Addr} {tK ts ts2 t1 t2 t3 : Tok} {qn m : Str} {fl : Int} {n : Nat} {y1 y2 y3 y4 y5 y6 y7 y8 y9 y10 y11 y12 : Int} {k1 k2 k3 k4 k5 k6 k7 k8 k9 k10 k11 k12 : Tok} {fd1 fd2 fd3 fd4 fd5 fd6 : FuncData}
    (kin : (K2 w.params).In h0) (hne : nsA ≠ sysModules) (hqn : qn = "cmp_to_key.<locals>.K") (hA : Ok (k+8) A) (hb : h0.get? bT = some { cls := .type "tuple", data := .seq #[.type "object"] })
    (hn : h0.get? nsA = some (dO [⟨y1, .str "__module__" k1, .str m t1⟩, ⟨y2, .str "__qualname__" k2, .str qn t2⟩, ⟨y3, .str "__firstlineno__" k3, .int fl t3⟩, ⟨y4, .str "__slots__" k4, .ref aS⟩,
      ⟨y5, .str "__init__" k5, .ref f1⟩, ⟨y6, .str "__lt__" k6, .ref f2⟩, ⟨y7, .str "__gt__" k7, .ref f3⟩, ⟨y8, .str "__eq__" k8, .ref f4⟩, ⟨y9, .str "__le__" k9, .ref f5⟩, ⟨y10, .str "__ge__" k10, .ref f6⟩,
      ⟨y11, .str "__hash__" k11, .none⟩, ⟨y12, .str "__static_attributes__" k12, .ref sA⟩] n))
    (hS : h0.get? aS = some { cls := .type "list", data := .seq #[.str "obj" ts] })
    (hf1 : h0.get? f1 = some { cls := .type "function", data := .func fd1 }) (hf2 : h0.get? f2 = some { cls := .type "function", data := .func fd2 }) (hf3 : h0.get? f3 = some { cls := .type "function", data := .func fd3 })
    (hf4 : h0.get? f4 = some { cls := .type "function", data := .func fd4 }) (hf5 : h0.get? f5 = some { cls := .type "function", data := .func fd5 }) (hf6 : h0.get? f6 = some { cls := .type "function", data := .func fd6 })
    (hsA : h0.get? sA = some { cls := .type "tuple", data := .seq #[.str "obj" ts2] })
    (hQ : ∀ kA nsK mD h' t', (∀ c o, h0.get? c = some o → h'.get? c = some o) → h0.get? kA = none → h0.get? nsK = none → h0.get? mD = none → kA ≠ nsK → kA ≠ mD → nsK ≠ mD →
      h'.get? kA = some (kO { name := "K", bases := [.type "object"], mro := [.ref kA, .type "object"], ns := nsK, qualname := qn, hasDict := false, slotNames := ["obj"], hasDel := false } #[some (.ref bT), none, some (.str "K" tK), some (.str qn t2), some (.builtin "object.__new__"), some (.bool false)]) →
      (∃ n' ya ka yb kb, h'.get? nsK = some (dO [⟨y1, .str "__module__" k1, .str m t1⟩, ⟨y3, .str "__firstlineno__" k3, .int fl t3⟩, ⟨y4, .str "__slots__" k4, .ref aS⟩,
        ⟨y5, .str "__init__" k5, .ref f1⟩, ⟨y6, .str "__lt__" k6, .ref f2⟩, ⟨y7, .str "__gt__" k7, .ref f3⟩, ⟨y8, .str "__eq__" k8, .ref f4⟩, ⟨y9, .str "__le__" k9, .ref f5⟩, ⟨y10, .str "__ge__" k10, .ref f6⟩,
        ⟨y11, .str "__hash__" k11, .none⟩, ⟨y12, .str "__static_attributes__" k12, .ref sA⟩, ⟨ya, .str "obj" ka, .ref mD⟩, ⟨yb, .str "__doc__" kb, .none⟩] n')) →
      (∃ tm, h'.get? mD = some { cls := .type "member_descriptor", data := .fields #[.str "obj" tm, .ref kA, .builtin "proto.slot", .builtin "proto.slot#set", .int 0 0] }) → Q (.ref kA) ⟨h', g9, d9, t', os9⟩) :
    wpAny (model P w) A (call (.type "type") [.str "K" tK, .ref bT, .ref nsA]) Q E ⟨h0, g9, d9, t9, os9⟩ := by
  have D9 := Lg.start h0
  refine wpAny_call (codeAny_of_tree ?_)
  show wpAny _ _ (callAny (.type "type") _) _ _ _
  refine wpAny_pure ⟨Code.quiet_builtin _ (by decide +kernel), codeAny_builtin F.entry_type_call ?_⟩
  rw [Around.under_plain (weight_type_call_type "type" _ []) (units_type_call_type "type" _ [])]
  unfold Builtin.«type.__call__»
  ((with_reducible refine zi_t ?hc ?_); (case hc => first | decide | exact (rfl : true = true)))
  ((with_reducible refine zi_f ?hc ?_); (case hc => first | decide | exact Bool.false_ne_true))
  ((with_reducible refine zi_f ?hc ?_); (case hc => first | decide | exact Bool.false_ne_true))
  ((with_reducible refine zi_f ?hc ?_); (case hc => first | decide | exact Bool.false_ne_true))
  with_reducible refine wpAny_bind ?_
  refine wpAny_of_eq (check_type3 _ _ _) ?_
  with_reducible refine wpAny_bind ?_
  refine wpAny_of_eq mro_type ?_
  ((with_reducible refine zi_f ?hc ?_); (case hc => first | decide | exact Bool.false_ne_true))
  with_reducible refine wpAny_bind ?_
  refine wpAny_of_eq made_type ?_
  with_reducible refine wpAny_bind ?_
  with_reducible refine wpAny_pure ?_
  with_reducible refine wpAny_bind ?_
  with_reducible refine wpAny_holding ?_
  refine wpAny_call (codeAny_call_builtin (by decide +kernel) entry_type_new (wpAny_of_eq (check_type_new _ _ _) ?_))
  unfold Builtin.«type.__new__»
  with_reducible refine wpAny_bind ?_
  conv => arg 3; whnf
  with_reducible refine x_pure ?_
  with_reducible refine wpAny_bind ?_
  conv => arg 3; whnf
  ((with_reducible show wpAny _ _ (.load _ _ _) _ _ _); ((with_reducible refine' za_load ?ho ?_); (case ho => exact Lg.old D9 (by assumption) rfl)))
  with_reducible refine zb ?_
  with_reducible refine zb ?_
  with_reducible refine x_pure ?_
  with_reducible refine wpAny_pure ?_
  ((with_reducible show wpAny _ _ (isSubtype _ _) _ _ _); (first | refine wpAny_of_eq sub_tuple ?_ | refine wpAny_of_eq sub_dict ?_ | refine wpAny_of_eq sub_type ?_))
  ((with_reducible refine zi_f ?hc ?_); (case hc => first | decide | exact Bool.false_ne_true))
  with_reducible refine wpAny_bind ?_
  conv => arg 3; whnf
  ((with_reducible show wpAny _ _ (.load _ _ _) _ _ _); ((with_reducible refine' za_load ?ho ?_); (case ho => exact Lg.old D9 (by assumption) rfl)))
  with_reducible refine zb ?_
  with_reducible refine zb ?_
  with_reducible refine x_pure ?_
  with_reducible refine wpAny_pure ?_
  ((with_reducible show wpAny _ _ (isSubtype _ _) _ _ _); (first | refine wpAny_of_eq sub_tuple ?_ | refine wpAny_of_eq sub_dict ?_ | refine wpAny_of_eq sub_type ?_))
  ((with_reducible refine zi_f ?hc ?_); (case hc => first | decide | exact Bool.false_ne_true))
  with_reducible refine wpAny_bind ?_
  conv => arg 3; whnf
  ((with_reducible show wpAny _ _ (.load _ _ _) _ _ _); ((with_reducible refine' za_load ?ho ?_); (case ho => exact Lg.old D9 (by assumption) rfl)))
  with_reducible refine zb ?_
  with_reducible refine x_pure ?_
  with_reducible refine wpAny_pure ?_
  ((with_reducible refine zi_f ?hc ?_); (case hc => first | decide | exact Bool.false_ne_true))
  with_reducible refine wpAny_bind ?_
  ((with_reducible show wpAny _ _ (forIn _ _ _) _ _ _); first | refine zf_cons' (rfl : _ = _ :: _) ?_ | refine zf_nil' (rfl : _ = []) ?_)
  with_reducible refine wpAny_bind ?_
  with_reducible refine wpAny_bind ?_
  ((with_reducible show wpAny _ _ (isType (Value.type _)) _ _ _); refine wpAny_of_eq isType_obj ?_)
  ((with_reducible refine zi_f ?hc ?_); (case hc => first | decide | exact Bool.false_ne_true))
  with_reducible refine wpAny_pure ?_
  ((with_reducible show wpAny _ _ (forIn _ _ _) _ _ _); first | refine zf_cons' (rfl : _ = _ :: _) ?_ | refine zf_nil' (rfl : _ = []) ?_)
  with_reducible refine wpAny_bind ?_
  ((with_reducible show wpAny _ _ (forIn _ _ _) _ _ _); first | refine zf_cons' (rfl : _ = _ :: _) ?_ | refine zf_nil' (rfl : _ = []) ?_)
  with_reducible refine wpAny_bind ?_
  with_reducible refine wpAny_bind ?_
  ((with_reducible show wpAny _ _ (typeOf (Value.type "object")) _ _ _); refine typeOf_obj ?_)
  with_reducible refine wpAny_bind ?_
  ((with_reducible show wpAny _ _ (isSubtype _ _) _ _ _); (first | refine wpAny_of_eq sub_tuple ?_ | refine wpAny_of_eq sub_dict ?_ | refine wpAny_of_eq sub_type ?_))
  ((with_reducible refine zi_t ?hc ?_); (case hc => first | decide | exact (rfl : true = true)))
  with_reducible refine wpAny_pure ?_
  ((with_reducible show wpAny _ _ (forIn _ _ _) _ _ _); first | refine zf_cons' (rfl : _ = _ :: _) ?_ | refine zf_nil' (rfl : _ = []) ?_)
  ((with_reducible refine zi_f ?hc ?_); (case hc => first | decide | exact Bool.false_ne_true))
  with_reducible refine wpAny_bind ?_
  ((with_reducible show wpAny _ _ (notOverATurnedClass _) _ _ _); refine wpAny_of_eq turned_obj ?_)
  with_reducible refine wpAny_bind ?_
  ((with_reducible show wpAny _ _ (extendedBase _) _ _ _); refine wpAny_of_eq ext_obj ?_)
  ((with_reducible show wpAny _ _ _ _ _ _); (with_reducible (conv => arg 3; whnf)))
  refine zi_f (by simpa using hne) ?_
  with_reducible refine wpAny_bind ?_
  conv => arg 3; whnf
  ((with_reducible show wpAny _ _ (.load _ _ _) _ _ _); ((with_reducible refine' za_load ?ho ?_); (case ho => exact Lg.old D9 (by assumption) rfl)))
  with_reducible refine zb ?_
  with_reducible refine x_pure ?_
  with_reducible refine wpAny_pure ?_
  with_reducible refine wpAny_bind ?_
  refine wpAny_specialOf (T := "dict") ⟨_, by exact Lg.old D9 (by assumption) rfl, rfl⟩ look_dict_iter ?_
  ((with_reducible refine zi_t ?hc ?_); (case hc => first | decide | exact (rfl : true = true)))
  with_reducible refine wpAny_bind ?_
  with_reducible refine wpAny_pure ?_
  with_reducible refine wpAny_bind ?_
  with_reducible refine wpAny_holding ?_
  refine readK (k := k+5) (hA.in1.in1) kin hS (by kernel_rfl) (he := (by kernel_rfl : _ = some (⟨y4, .str "__slots__" k4, .ref aS⟩ : DictEntry))) (by kernel_rfl) fun a9 n9 h9 t9 kp e9 n9' => ?_
  replace D9 := D9.one kp e9 n9'
  clear kp e9 n9'
  with_reducible refine wpAny_bind ?_
  conv => arg 3; whnf
  ((with_reducible show wpAny _ _ (.alloc _ _) _ _ _); ((refine za_alloc D9 ?hf ?_); (case hf => rfl); (clear D9; intro a9 h9 D9)))
  with_reducible refine zb ?_
  with_reducible refine x_pure ?_
  with_reducible refine wpAny_pure ?_
  obtain ⟨nsK, rfl⟩ : ∃ x, x = a9 := ⟨_, rfl⟩
  ((with_reducible show wpAny _ _ _ _ _ _); (with_reducible (conv => arg 3; whnf)))
  refine zi_fb (by kernel_rfl) ?_
  with_reducible refine wpAny_bind ?_
  ((with_reducible show wpAny _ _ _ _ _ _); (with_reducible (conv => arg 3; whnf)))
  refine zi_fb (by kernel_rfl) ?_
  with_reducible refine wpAny_pure ?_
  ((with_reducible show wpAny _ _ _ _ _ _); (with_reducible (conv => arg 3; whnf)))
  refine zi_fb (by kernel_rfl) ?_
  with_reducible refine wpAny_bind ?_
  ((with_reducible show wpAny _ _ (nsGet _ _) _ _ _); ((refine' za_nsGet D9 _ (ixr 0 rfl) ?hk ?hr ?_); (case hk => rfl); (case hr => exact (rfl : _ = Option.some _))))
  with_reducible refine wpAny_bind ?_
  ((with_reducible show wpAny _ _ (nsGet _ _) _ _ _); ((refine' za_nsGet D9 _ (ixr 0 rfl) ?hk ?hr ?_); (case hk => rfl); (case hr => exact (rfl : _ = Option.some _))))
  with_reducible refine wpAny_bind ?_
  conv => arg 3; whnf
  with_reducible refine x_pure ?_
  with_reducible refine wpAny_bind ?_
  with_reducible refine wpAny_pure ?_
  with_reducible refine wpAny_bind ?_
  ((with_reducible show wpAny _ _ (nsGet _ _) _ _ _); ((refine' za_nsGet D9 _ (ixr 0 rfl) ?hk ?hr ?_); (case hk => rfl); (case hr => exact (rfl : _ = Option.none))))
  with_reducible refine wpAny_bind ?_
  conv => arg 3; whnf
  ((with_reducible show wpAny _ _ (.alloc _ _) _ _ _); ((refine za_alloc D9 ?hf ?_); (case hf => rfl); (clear D9; intro a9 h9 D9)))
  with_reducible refine x_pure ?_
  ((with_reducible refine zi_t ?hc ?_); (case hc => first | decide | exact (rfl : true = true)))
  with_reducible refine wpAny_bind ?_
  obtain ⟨kA, rfl⟩ : ∃ x, x = a9 := ⟨_, rfl⟩
  replace D9 := Lg.hd D9 (o' := kO { name := "K", bases := [.type "object"], mro := [], ns := nsK, qualname := qn } #[]) rfl
  refine za_slot #[some (.ref bT)] D9 0 rfl rfl rfl fun h9 D9 => ?_
  (simp only [List.set_cons_zero, List.set_cons_succ, Option.isSome_none, Option.isSome_some, Bool.false_eq_true, if_false, if_true] at D9)
  with_reducible refine wpAny_bind ?_
  refine za_slot #[some (.ref bT), none, some (.str "K" tK)] D9 0 rfl rfl rfl fun h9 D9 => ?_
  (simp only [List.set_cons_zero, List.set_cons_succ, Option.isSome_none, Option.isSome_some, Bool.false_eq_true, if_false, if_true] at D9)
  ((with_reducible show wpAny _ _ _ _ _ _); (with_reducible (conv => arg 3; whnf)))
  rw [show ((some (Value.str qn t2)).orElse fun x => some (Value.str (Str.ofString "K") tK)) = some (Value.str qn t2) from rfl]
  with_reducible refine wpAny_bind ?_
  refine za_slot #[some (.ref bT), none, some (.str "K" tK), some (.str qn t2)] D9 0 rfl rfl rfl fun h9 D9 => ?_
  (simp only [List.set_cons_zero, List.set_cons_succ, Option.isSome_none, Option.isSome_some, Bool.false_eq_true, if_false, if_true] at D9)
  with_reducible refine wpAny_bind ?_
  refine za_delq D9 1 rfl fun h9 D9 => ?_
  (simp only [List.set_cons_zero, List.set_cons_succ, Option.isSome_none, Option.isSome_some, Bool.false_eq_true, if_false, if_true] at D9)
  with_reducible refine wpAny_bind ?_
  ((with_reducible show wpAny _ _ (nsGet _ _) _ _ _); ((refine' za_nsGet D9 _ (ixr 1 rfl) ?hk ?hr ?_); (case hk => rfl); (case hr => exact (rfl : _ = Option.none))))
  with_reducible refine wpAny_bind ?_
  ((with_reducible show wpAny _ _ (forIn _ _ _) _ _ _); first | refine zf_cons' (rfl : _ = _ :: _) ?_ | refine zf_nil' (rfl : _ = []) ?_)
  with_reducible refine wpAny_bind ?_
  with_reducible refine wpAny_bind ?_
  ((with_reducible show wpAny _ _ (nsGet _ _) _ _ _); ((refine' za_nsGet D9 _ (ixr 1 rfl) ?hk ?hr ?_); (case hk => rfl); (case hr => exact (rfl : _ = Option.none))))
  with_reducible refine wpAny_pure ?_
  ((with_reducible show wpAny _ _ (forIn _ _ _) _ _ _); first | refine zf_cons' (rfl : _ = _ :: _) ?_ | refine zf_nil' (rfl : _ = []) ?_)
  with_reducible refine wpAny_bind ?_
  with_reducible refine wpAny_bind ?_
  ((with_reducible show wpAny _ _ (nsGet _ _) _ _ _); ((refine' za_nsGet D9 _ (ixr 1 rfl) ?hk ?hr ?_); (case hk => rfl); (case hr => exact (rfl : _ = Option.none))))
  with_reducible refine wpAny_pure ?_
  ((with_reducible show wpAny _ _ (forIn _ _ _) _ _ _); first | refine zf_cons' (rfl : _ = _ :: _) ?_ | refine zf_nil' (rfl : _ = []) ?_)
  with_reducible refine wpAny_bind ?_
  ((with_reducible show wpAny _ _ (nsGet _ _) _ _ _); ((refine' za_nsGet D9 _ (ixr 1 rfl) ?hk ?hr ?_); (case hk => rfl); (case hr => exact (rfl : _ = Option.none))))
  with_reducible refine wpAny_bind ?_
  ((with_reducible show wpAny _ _ (nsGet _ _) _ _ _); ((refine' za_nsGet D9 _ (ixr 1 rfl) ?hk ?hr ?_); (case hk => rfl); (case hr => exact (rfl : _ = Option.none))))
  with_reducible refine wpAny_bind ?_
  ((with_reducible show wpAny _ _ (mroHook? _) _ _ _); refine wpAny_of_eq hook_type ?_)
  with_reducible refine wpAny_bind ?_
  ((with_reducible show wpAny _ _ (linearize _ _) _ _ _); refine wpAny_of_eq lin_obj ?_)
  with_reducible refine wpAny_bind ?_
  with_reducible refine wpAny_pure ?_
  with_reducible refine wpAny_bind ?_
  rw [show List.filter (fun x => x != Value.ref kA) [Value.ref kA, Value.type "object"] = [Value.type "object"] from by simp]
  refine wpAny_of_eq (a := false) (by kernel_rfl) ?_
  with_reducible refine wpAny_bind ?_
  refine za_cls (k' := { name := "K", bases := [.type "object"], mro := [.ref kA, .type "object"], ns := nsK, qualname := qn, hasDel := false }) D9 0 rfl (by kernel_rfl) rfl fun h9 D9 => ?_
  (simp only [List.set_cons_zero, List.set_cons_succ, Option.isSome_none, Option.isSome_some, Bool.false_eq_true, if_false, if_true] at D9)
  with_reducible refine wpAny_bind ?_
  ((with_reducible show wpAny _ _ (Bind.madeBy _) _ _ _); refine wpAny_of_eq made_obj ?_)
  with_reducible refine wpAny_bind ?_
  refine za_slot #[some (.ref bT), none, some (.str "K" tK), some (.str qn t2), some (.builtin "object.__new__")] D9 0 rfl rfl rfl fun h9 D9 => ?_
  (simp only [List.set_cons_zero, List.set_cons_succ, Option.isSome_none, Option.isSome_some, Bool.false_eq_true, if_false, if_true] at D9)
  with_reducible refine wpAny_bind ?_
  unfold Bind.refreshMaker
  with_reducible refine wpAny_bind ?_
  refine za_slotAt (r := some (.builtin "object.__new__")) (D9.at 0 rfl) rfl ?_
  ((with_reducible refine zi_f ?hc ?_); (case hc => first | decide | exact Bool.false_ne_true))
  with_reducible refine wpAny_bind ?_
  unfold typeLookup
  with_reducible refine wpAny_bind ?_
  conv => arg 3; whnf
  ((with_reducible show wpAny _ _ (.load _ _ _) _ _ _); ((with_reducible refine' za_load ?ho ?_); (case ho => exact Lg.at D9 _ (ixr 0 rfl))))
  with_reducible refine zb ?_
  with_reducible refine zb ?_
  with_reducible refine x_pure ?_
  with_reducible refine wpAny_pure ?_
  with_reducible refine wpAny_pure ?_
  with_reducible refine wpAny_bind ?_
  ((with_reducible show wpAny _ _ (forIn _ _ _) _ _ _); first | refine zf_cons' (rfl : _ = _ :: _) ?_ | refine zf_nil' (rfl : _ = []) ?_)
  with_reducible refine wpAny_bind ?_
  with_reducible refine wpAny_bind ?_
  unfold classOwn
  with_reducible refine wpAny_bind ?_
  conv => arg 3; whnf
  ((with_reducible show wpAny _ _ (.load _ _ _) _ _ _); ((with_reducible refine' za_load ?ho ?_); (case ho => exact Lg.at D9 _ (ixr 0 rfl))))
  with_reducible refine zb ?_
  with_reducible refine x_pure ?_
  with_reducible refine wpAny_pure ?_
  ((with_reducible show wpAny _ _ (nsGet _ _) _ _ _); ((refine' za_nsGet D9 _ (ixr 1 rfl) ?hk ?hr ?_); (case hk => rfl); (case hr => exact (rfl : _ = Option.none))))
  with_reducible refine wpAny_pure ?_
  ((with_reducible show wpAny _ _ (forIn _ _ _) _ _ _); first | refine zf_cons' (rfl : _ = _ :: _) ?_ | refine zf_nil' (rfl : _ = []) ?_)
  with_reducible refine wpAny_bind ?_
  with_reducible refine wpAny_bind ?_
  with_reducible refine wpAny_pure ?_
  rw [show builtinOwn "object" (Str.ofString "__new__") = some (.builtin "object.__new__") from by kernel_rfl]
  with_reducible refine wpAny_pure ?_
  with_reducible refine wpAny_pure ?_
  with_reducible refine wpAny_pure ?_
  ((with_reducible show wpAny _ _ _ _ _ _); (with_reducible (conv => arg 3; whnf)))
  refine zi_fb (by decide +kernel) ?_
  with_reducible refine wpAny_pure ?_
  with_reducible refine wpAny_bind ?_
  unfold Slots.install
  with_reducible refine wpAny_bind ?_
  ((with_reducible show wpAny _ _ (forIn _ _ _) _ _ _); first | refine zf_cons' (rfl : _ = _ :: _) ?_ | refine zf_nil' (rfl : _ = []) ?_)
  with_reducible refine wpAny_bind ?_
  with_reducible refine wpAny_bind ?_
  ((with_reducible show wpAny _ _ (nsGet _ _) _ _ _); ((refine' za_nsGet D9 _ (ixr 1 rfl) ?hk ?hr ?_); (case hk => rfl); (case hr => exact (rfl : _ = Option.none))))
  ((with_reducible refine zi_t ?hc ?_); (case hc => first | decide | exact (rfl : true = true)))
  with_reducible refine wpAny_bind ?_
  ((with_reducible show wpAny _ _ _ _ _ _); (with_reducible (conv => arg 3; whnf)))
  conv => arg 3; whnf
  ((with_reducible show wpAny _ _ (.fresh _) _ _ _); with_reducible refine za_fresh ?_)
  with_reducible refine zb ?_
  with_reducible refine x_pure ?_
  with_reducible refine wpAny_pure ?_
  with_reducible refine wpAny_bind ?_
  conv => arg 3; whnf
  ((with_reducible show wpAny _ _ (.alloc _ _) _ _ _); ((refine za_alloc D9 ?hf ?_); (case hf => rfl); (clear D9; intro a9 h9 D9)))
  with_reducible refine zb ?_
  with_reducible refine x_pure ?_
  with_reducible refine wpAny_pure ?_
  with_reducible refine wpAny_bind ?_
  obtain ⟨mD, rfl⟩ : ∃ x, x = a9 := ⟨_, rfl⟩
  unfold nsSetByValue
  with_reducible refine wpAny_bind ?_
  conv => arg 3; whnf
  ((with_reducible show wpAny _ _ (.load _ _ _) _ _ _); ((with_reducible refine' za_load ?ho ?_); (case ho => exact Lg.at D9 _ (ixr 2 rfl))))
  with_reducible refine x_pure ?_
  ((with_reducible refine zi_f ?hc ?_); (case hc => first | decide | exact Bool.false_ne_true))
  ((with_reducible show wpAny _ _ (nsSet _ _ _) _ _ _); ((refine' za_nsAdd D9 _ (ixr 2 rfl) ?hk ?_); (case hk => rfl); (clear D9; intro _ _ h9 t9 D9; simp only [List.set_cons_zero, List.set_cons_succ, List.cons_append, List.nil_append] at D9)))
  with_reducible refine wpAny_pure ?_
  ((with_reducible show wpAny _ _ (forIn _ _ _) _ _ _); first | refine zf_cons' (rfl : _ = _ :: _) ?_ | refine zf_nil' (rfl : _ = []) ?_)
  with_reducible refine wpAny_bind ?_
  ((with_reducible show wpAny _ _ (forIn _ _ _) _ _ _); first | refine zf_cons' (rfl : _ = _ :: _) ?_ | refine zf_nil' (rfl : _ = []) ?_)
  with_reducible refine wpAny_bind ?_
  with_reducible refine wpAny_bind ?_
  ((with_reducible show wpAny _ _ (Slots.givesDict _) _ _ _); refine wpAny_of_eq gdict_obj ?_)
  ((with_reducible refine zi_f ?hc ?_); (case hc => first | decide | exact Bool.false_ne_true))
  with_reducible refine wpAny_pure ?_
  ((with_reducible show wpAny _ _ (forIn _ _ _) _ _ _); first | refine zf_cons' (rfl : _ = _ :: _) ?_ | refine zf_nil' (rfl : _ = []) ?_)
  ((with_reducible refine zi_f ?hc ?_); (case hc => first | decide | exact Bool.false_ne_true))
  refine za_cls (k' := { name := "K", bases := [.type "object"], mro := [.ref kA, .type "object"], ns := nsK, qualname := qn, hasDict := false, slotNames := ["obj"], hasDel := false }) D9 1 rfl (by kernel_rfl) rfl fun h9 D9 => ?_
  (simp only [List.set_cons_zero, List.set_cons_succ, Option.isSome_none, Option.isSome_some, Bool.false_eq_true, if_false, if_true] at D9)
  with_reducible refine wpAny_bind ?_
  ((with_reducible show wpAny _ _ (Slots.givesWeak _) _ _ _); refine wpAny_of_eq gweak_obj ?_)
  with_reducible refine wpAny_bind ?_
  refine za_slot #[some (.ref bT), none, some (.str "K" tK), some (.str qn t2), some (.builtin "object.__new__"), some (.bool false)] D9 1 rfl rfl rfl fun h9 D9 => ?_
  (simp only [List.set_cons_zero, List.set_cons_succ, Option.isSome_none, Option.isSome_some, Bool.false_eq_true, if_false, if_true] at D9)
  ((with_reducible refine zi_f ?hc ?_); (case hc => first | decide | exact Bool.false_ne_true))
  ((with_reducible refine zi_f ?hc ?_); (case hc => first | decide | exact Bool.false_ne_true))
  with_reducible refine wpAny_bind ?_
  ((with_reducible show wpAny _ _ (nsGet _ _) _ _ _); ((refine' za_nsGet D9 _ (ixr 2 rfl) ?hk ?hr ?_); (case hk => rfl); (case hr => exact (rfl : _ = Option.none))))
  ((with_reducible refine zi_t ?hc ?_); (case hc => first | decide | exact (rfl : true = true)))
  with_reducible refine wpAny_bind ?_
  ((with_reducible show wpAny _ _ (nsSet _ _ _) _ _ _); ((refine' za_nsAdd D9 _ (ixr 2 rfl) ?hk ?_); (case hk => rfl); (clear D9; intro _ _ h9 t9 D9; simp only [List.set_cons_zero, List.set_cons_succ, List.cons_append, List.nil_append] at D9)))
  with_reducible refine wpAny_bind ?_
  ((with_reducible show wpAny _ _ (nsGet _ _) _ _ _); ((refine' za_nsGet D9 _ (ixr 2 rfl) ?hk ?hr ?_); (case hk => rfl); (case hr => exact (rfl : _ = Option.some _))))
  ((with_reducible refine zi_t ?hc ?_); (case hc => first | decide | exact (rfl : true = true)))
  with_reducible refine wpAny_bind ?_
  ((with_reducible show wpAny _ _ (nsGet _ _) _ _ _); ((refine' za_nsGet D9 _ (ixr 2 rfl) ?hk ?hr ?_); (case hk => rfl); (case hr => exact (rfl : _ = Option.some _))))
  ((with_reducible refine zi_f ?hc ?_); (case hc => first | decide | exact Bool.false_ne_true))
  with_reducible refine wpAny_bind ?_
  ((with_reducible show wpAny _ _ (forIn _ _ _) _ _ _); first | refine zf_cons' (rfl : _ = _ :: _) ?_ | refine zf_nil' (rfl : _ = []) ?_)
  with_reducible refine wpAny_bind ?_
  with_reducible refine wpAny_bind ?_
  ((with_reducible show wpAny _ _ (noteSubclassOfBuiltin _ _) _ _ _); refine wpAny_of_eq (note_obj _) ?_)
  with_reducible refine wpAny_pure ?_
  ((with_reducible show wpAny _ _ (forIn _ _ _) _ _ _); first | refine zf_cons' (rfl : _ = _ :: _) ?_ | refine zf_nil' (rfl : _ = []) ?_)
  with_reducible refine wpAny_bind ?_
  refine wpAny_tryCatch ?_
  with_reducible refine wpAny_holding ?_
  with_reducible refine wpAny_bind ?_
  conv => arg 3; whnf
  ((with_reducible show wpAny _ _ (.load _ _ _) _ _ _); ((with_reducible refine' za_load ?ho ?_); (case ho => exact Lg.at D9 _ (ixr 2 rfl))))
  with_reducible refine zb ?_
  with_reducible refine x_pure ?_
  with_reducible refine wpAny_pure ?_
  with_reducible refine wpAny_bind ?_
  refine zf_arr (l := _) rfl ?_
  ((with_reducible show wpAny _ _ (forIn _ _ _) _ _ _); first | refine zf_cons' (rfl : _ = _ :: _) ?_ | refine zf_nil' (rfl : _ = []) ?_)
  with_reducible refine wpAny_bind ?_
  with_reducible refine wpAny_bind ?_
  ((with_reducible show wpAny _ _ (asStr? (DictEntry.key _)) _ _ _); refine wpAny_of_eq (a := some _) (rfl : asStr? (Value.str _ _) = _) ?_)
  ((with_reducible refine zi_f ?hc ?_); (case hc => first | decide | exact Bool.false_ne_true))
  with_reducible refine wpAny_pure ?_
  ((with_reducible show wpAny _ _ (forIn _ _ _) _ _ _); first | refine zf_cons' (rfl : _ = _ :: _) ?_ | refine zf_nil' (rfl : _ = []) ?_)
  with_reducible refine wpAny_bind ?_
  with_reducible refine wpAny_bind ?_
  ((with_reducible show wpAny _ _ (asStr? (DictEntry.key _)) _ _ _); refine wpAny_of_eq (a := some _) (rfl : asStr? (Value.str _ _) = _) ?_)
  ((with_reducible refine zi_f ?hc ?_); (case hc => first | decide | exact Bool.false_ne_true))
  with_reducible refine wpAny_pure ?_
  ((with_reducible show wpAny _ _ (forIn _ _ _) _ _ _); first | refine zf_cons' (rfl : _ = _ :: _) ?_ | refine zf_nil' (rfl : _ = []) ?_)
  with_reducible refine wpAny_bind ?_
  with_reducible refine wpAny_bind ?_
  ((with_reducible show wpAny _ _ (asStr? (DictEntry.key _)) _ _ _); refine wpAny_of_eq (a := some _) (rfl : asStr? (Value.str _ _) = _) ?_)
  ((with_reducible refine zi_f ?hc ?_); (case hc => first | decide | exact Bool.false_ne_true))
  with_reducible refine wpAny_pure ?_
  ((with_reducible show wpAny _ _ (forIn _ _ _) _ _ _); first | refine zf_cons' (rfl : _ = _ :: _) ?_ | refine zf_nil' (rfl : _ = []) ?_)
  with_reducible refine wpAny_bind ?_
  with_reducible refine wpAny_bind ?_
  ((with_reducible show wpAny _ _ (asStr? (DictEntry.key _)) _ _ _); refine wpAny_of_eq (a := some _) (rfl : asStr? (Value.str _ _) = _) ?_)
  ((with_reducible refine zi_f ?hc ?_); (case hc => first | decide | exact Bool.false_ne_true))
  with_reducible refine wpAny_pure ?_
  ((with_reducible show wpAny _ _ (forIn _ _ _) _ _ _); first | refine zf_cons' (rfl : _ = _ :: _) ?_ | refine zf_nil' (rfl : _ = []) ?_)
  with_reducible refine wpAny_bind ?_
  with_reducible refine wpAny_bind ?_
  ((with_reducible show wpAny _ _ (asStr? (DictEntry.key _)) _ _ _); refine wpAny_of_eq (a := some _) (rfl : asStr? (Value.str _ _) = _) ?_)
  ((with_reducible refine zi_f ?hc ?_); (case hc => first | decide | exact Bool.false_ne_true))
  with_reducible refine wpAny_pure ?_
  ((with_reducible show wpAny _ _ (forIn _ _ _) _ _ _); first | refine zf_cons' (rfl : _ = _ :: _) ?_ | refine zf_nil' (rfl : _ = []) ?_)
  with_reducible refine wpAny_bind ?_
  with_reducible refine wpAny_bind ?_
  ((with_reducible show wpAny _ _ (asStr? (DictEntry.key _)) _ _ _); refine wpAny_of_eq (a := some _) (rfl : asStr? (Value.str _ _) = _) ?_)
  ((with_reducible refine zi_f ?hc ?_); (case hc => first | decide | exact Bool.false_ne_true))
  with_reducible refine wpAny_pure ?_
  ((with_reducible show wpAny _ _ (forIn _ _ _) _ _ _); first | refine zf_cons' (rfl : _ = _ :: _) ?_ | refine zf_nil' (rfl : _ = []) ?_)
  with_reducible refine wpAny_bind ?_
  with_reducible refine wpAny_bind ?_
  ((with_reducible show wpAny _ _ (asStr? (DictEntry.key _)) _ _ _); refine wpAny_of_eq (a := some _) (rfl : asStr? (Value.str _ _) = _) ?_)
  ((with_reducible refine zi_f ?hc ?_); (case hc => first | decide | exact Bool.false_ne_true))
  with_reducible refine wpAny_pure ?_
  ((with_reducible show wpAny _ _ (forIn _ _ _) _ _ _); first | refine zf_cons' (rfl : _ = _ :: _) ?_ | refine zf_nil' (rfl : _ = []) ?_)
  with_reducible refine wpAny_bind ?_
  with_reducible refine wpAny_bind ?_
  ((with_reducible show wpAny _ _ (asStr? (DictEntry.key _)) _ _ _); refine wpAny_of_eq (a := some _) (rfl : asStr? (Value.str _ _) = _) ?_)
  ((with_reducible refine zi_f ?hc ?_); (case hc => first | decide | exact Bool.false_ne_true))
  with_reducible refine wpAny_pure ?_
  ((with_reducible show wpAny _ _ (forIn _ _ _) _ _ _); first | refine zf_cons' (rfl : _ = _ :: _) ?_ | refine zf_nil' (rfl : _ = []) ?_)
  with_reducible refine wpAny_bind ?_
  with_reducible refine wpAny_bind ?_
  ((with_reducible show wpAny _ _ (asStr? (DictEntry.key _)) _ _ _); refine wpAny_of_eq (a := some _) (rfl : asStr? (Value.str _ _) = _) ?_)
  ((with_reducible refine zi_f ?hc ?_); (case hc => first | decide | exact Bool.false_ne_true))
  with_reducible refine wpAny_pure ?_
  ((with_reducible show wpAny _ _ (forIn _ _ _) _ _ _); first | refine zf_cons' (rfl : _ = _ :: _) ?_ | refine zf_nil' (rfl : _ = []) ?_)
  with_reducible refine wpAny_bind ?_
  with_reducible refine wpAny_bind ?_
  ((with_reducible show wpAny _ _ (asStr? (DictEntry.key _)) _ _ _); refine wpAny_of_eq (a := some _) (rfl : asStr? (Value.str _ _) = _) ?_)
  ((with_reducible refine zi_f ?hc ?_); (case hc => first | decide | exact Bool.false_ne_true))
  with_reducible refine wpAny_pure ?_
  ((with_reducible show wpAny _ _ (forIn _ _ _) _ _ _); first | refine zf_cons' (rfl : _ = _ :: _) ?_ | refine zf_nil' (rfl : _ = []) ?_)
  with_reducible refine wpAny_bind ?_
  with_reducible refine wpAny_bind ?_
  ((with_reducible show wpAny _ _ (asStr? (DictEntry.key _)) _ _ _); refine wpAny_of_eq (a := some _) (rfl : asStr? (Value.str _ _) = _) ?_)
  ((with_reducible refine zi_f ?hc ?_); (case hc => first | decide | exact Bool.false_ne_true))
  with_reducible refine wpAny_pure ?_
  ((with_reducible show wpAny _ _ (forIn _ _ _) _ _ _); first | refine zf_cons' (rfl : _ = _ :: _) ?_ | refine zf_nil' (rfl : _ = []) ?_)
  with_reducible refine wpAny_bind ?_
  with_reducible refine wpAny_bind ?_
  ((with_reducible show wpAny _ _ (asStr? (DictEntry.key _)) _ _ _); refine wpAny_of_eq (a := some _) (rfl : asStr? (Value.str _ _) = _) ?_)
  ((with_reducible refine zi_f ?hc ?_); (case hc => first | decide | exact Bool.false_ne_true))
  with_reducible refine wpAny_pure ?_
  ((with_reducible show wpAny _ _ (forIn _ _ _) _ _ _); first | refine zf_cons' (rfl : _ = _ :: _) ?_ | refine zf_nil' (rfl : _ = []) ?_)
  with_reducible refine wpAny_bind ?_
  with_reducible refine wpAny_bind ?_
  ((with_reducible show wpAny _ _ (asStr? (DictEntry.key _)) _ _ _); refine wpAny_of_eq (a := some _) (rfl : asStr? (Value.str _ _) = _) ?_)
  ((with_reducible refine zi_f ?hc ?_); (case hc => first | decide | exact Bool.false_ne_true))
  with_reducible refine wpAny_pure ?_
  ((with_reducible show wpAny _ _ (forIn _ _ _) _ _ _); first | refine zf_cons' (rfl : _ = _ :: _) ?_ | refine zf_nil' (rfl : _ = []) ?_)
  ((with_reducible refine zi_f ?hc ?_); (case hc => first | decide | exact Bool.false_ne_true))
  with_reducible refine wpAny_bind ?_
  conv => arg 3; whnf
  ((with_reducible show wpAny _ _ (.load _ _ _) _ _ _); ((with_reducible refine' za_load ?ho ?_); (case ho => exact Lg.at D9 _ (ixr 2 rfl))))
  with_reducible refine zb ?_
  with_reducible refine x_pure ?_
  with_reducible refine wpAny_pure ?_
  with_reducible refine wpAny_bind ?_
  refine zf_arr (l := _) rfl ?_
  ((with_reducible show wpAny _ _ (forIn _ _ _) _ _ _); first | refine zf_cons' (rfl : _ = _ :: _) ?_ | refine zf_nil' (rfl : _ = []) ?_)
  with_reducible refine wpAny_bind ?_
  ((with_reducible refine zi_f ?hc ?_); (case hc => first | decide | exact Bool.false_ne_true))
  with_reducible refine wpAny_bind ?_
  ((with_reducible show wpAny _ _ (specialOf _ (Str.ofString "__set_name__")) _ _ _); (first | refine wpAny_specialOf (typeIs_str _ _ _) sn_str ?_ | refine wpAny_specialOf (typeIs_int _ _ _) sn_int ?_ | refine wpAny_specialOf (typeIs_none _) sn_none ?_ | refine wpAny_specialOf (T := "function") ⟨_, by first | exact Lg.old D9 (by assumption) rfl | exact Lg.at D9 _ (ixr 0 rfl), rfl⟩ sn_func ?_ | refine wpAny_specialOf (T := "list") ⟨_, by first | exact Lg.old D9 (by assumption) rfl | exact Lg.at D9 _ (ixr 0 rfl), rfl⟩ sn_list ?_ | refine wpAny_specialOf (T := "tuple") ⟨_, by first | exact Lg.old D9 (by assumption) rfl | exact Lg.at D9 _ (ixr 0 rfl), rfl⟩ sn_tuple ?_ | refine wpAny_specialOf (T := "member_descriptor") ⟨_, by first | exact Lg.old D9 (by assumption) rfl | exact Lg.at D9 _ (ixr 0 rfl), rfl⟩ sn_mem ?_))
  with_reducible refine wpAny_pure ?_
  ((with_reducible show wpAny _ _ (forIn _ _ _) _ _ _); first | refine zf_cons' (rfl : _ = _ :: _) ?_ | refine zf_nil' (rfl : _ = []) ?_)
  with_reducible refine wpAny_bind ?_
  ((with_reducible refine zi_f ?hc ?_); (case hc => first | decide | exact Bool.false_ne_true))
  with_reducible refine wpAny_bind ?_
  ((with_reducible show wpAny _ _ (specialOf _ (Str.ofString "__set_name__")) _ _ _); (first | refine wpAny_specialOf (typeIs_str _ _ _) sn_str ?_ | refine wpAny_specialOf (typeIs_int _ _ _) sn_int ?_ | refine wpAny_specialOf (typeIs_none _) sn_none ?_ | refine wpAny_specialOf (T := "function") ⟨_, by first | exact Lg.old D9 (by assumption) rfl | exact Lg.at D9 _ (ixr 0 rfl), rfl⟩ sn_func ?_ | refine wpAny_specialOf (T := "list") ⟨_, by first | exact Lg.old D9 (by assumption) rfl | exact Lg.at D9 _ (ixr 0 rfl), rfl⟩ sn_list ?_ | refine wpAny_specialOf (T := "tuple") ⟨_, by first | exact Lg.old D9 (by assumption) rfl | exact Lg.at D9 _ (ixr 0 rfl), rfl⟩ sn_tuple ?_ | refine wpAny_specialOf (T := "member_descriptor") ⟨_, by first | exact Lg.old D9 (by assumption) rfl | exact Lg.at D9 _ (ixr 0 rfl), rfl⟩ sn_mem ?_))
  with_reducible refine wpAny_pure ?_
  ((with_reducible show wpAny _ _ (forIn _ _ _) _ _ _); first | refine zf_cons' (rfl : _ = _ :: _) ?_ | refine zf_nil' (rfl : _ = []) ?_)
  with_reducible refine wpAny_bind ?_
  ((with_reducible refine zi_f ?hc ?_); (case hc => first | decide | exact Bool.false_ne_true))
  with_reducible refine wpAny_bind ?_
  ((with_reducible show wpAny _ _ (specialOf _ (Str.ofString "__set_name__")) _ _ _); (first | refine wpAny_specialOf (typeIs_str _ _ _) sn_str ?_ | refine wpAny_specialOf (typeIs_int _ _ _) sn_int ?_ | refine wpAny_specialOf (typeIs_none _) sn_none ?_ | refine wpAny_specialOf (T := "function") ⟨_, by first | exact Lg.old D9 (by assumption) rfl | exact Lg.at D9 _ (ixr 0 rfl), rfl⟩ sn_func ?_ | refine wpAny_specialOf (T := "list") ⟨_, by first | exact Lg.old D9 (by assumption) rfl | exact Lg.at D9 _ (ixr 0 rfl), rfl⟩ sn_list ?_ | refine wpAny_specialOf (T := "tuple") ⟨_, by first | exact Lg.old D9 (by assumption) rfl | exact Lg.at D9 _ (ixr 0 rfl), rfl⟩ sn_tuple ?_ | refine wpAny_specialOf (T := "member_descriptor") ⟨_, by first | exact Lg.old D9 (by assumption) rfl | exact Lg.at D9 _ (ixr 0 rfl), rfl⟩ sn_mem ?_))
  with_reducible refine wpAny_pure ?_
  ((with_reducible show wpAny _ _ (forIn _ _ _) _ _ _); first | refine zf_cons' (rfl : _ = _ :: _) ?_ | refine zf_nil' (rfl : _ = []) ?_)
  with_reducible refine wpAny_bind ?_
  ((with_reducible refine zi_f ?hc ?_); (case hc => first | decide | exact Bool.false_ne_true))
  with_reducible refine wpAny_bind ?_
  ((with_reducible show wpAny _ _ (specialOf _ (Str.ofString "__set_name__")) _ _ _); (first | refine wpAny_specialOf (typeIs_str _ _ _) sn_str ?_ | refine wpAny_specialOf (typeIs_int _ _ _) sn_int ?_ | refine wpAny_specialOf (typeIs_none _) sn_none ?_ | refine wpAny_specialOf (T := "function") ⟨_, by first | exact Lg.old D9 (by assumption) rfl | exact Lg.at D9 _ (ixr 0 rfl), rfl⟩ sn_func ?_ | refine wpAny_specialOf (T := "list") ⟨_, by first | exact Lg.old D9 (by assumption) rfl | exact Lg.at D9 _ (ixr 0 rfl), rfl⟩ sn_list ?_ | refine wpAny_specialOf (T := "tuple") ⟨_, by first | exact Lg.old D9 (by assumption) rfl | exact Lg.at D9 _ (ixr 0 rfl), rfl⟩ sn_tuple ?_ | refine wpAny_specialOf (T := "member_descriptor") ⟨_, by first | exact Lg.old D9 (by assumption) rfl | exact Lg.at D9 _ (ixr 0 rfl), rfl⟩ sn_mem ?_))
  with_reducible refine wpAny_pure ?_
  ((with_reducible show wpAny _ _ (forIn _ _ _) _ _ _); first | refine zf_cons' (rfl : _ = _ :: _) ?_ | refine zf_nil' (rfl : _ = []) ?_)
  with_reducible refine wpAny_bind ?_
  ((with_reducible refine zi_f ?hc ?_); (case hc => first | decide | exact Bool.false_ne_true))
  with_reducible refine wpAny_bind ?_
  ((with_reducible show wpAny _ _ (specialOf _ (Str.ofString "__set_name__")) _ _ _); (first | refine wpAny_specialOf (typeIs_str _ _ _) sn_str ?_ | refine wpAny_specialOf (typeIs_int _ _ _) sn_int ?_ | refine wpAny_specialOf (typeIs_none _) sn_none ?_ | refine wpAny_specialOf (T := "function") ⟨_, by first | exact Lg.old D9 (by assumption) rfl | exact Lg.at D9 _ (ixr 0 rfl), rfl⟩ sn_func ?_ | refine wpAny_specialOf (T := "list") ⟨_, by first | exact Lg.old D9 (by assumption) rfl | exact Lg.at D9 _ (ixr 0 rfl), rfl⟩ sn_list ?_ | refine wpAny_specialOf (T := "tuple") ⟨_, by first | exact Lg.old D9 (by assumption) rfl | exact Lg.at D9 _ (ixr 0 rfl), rfl⟩ sn_tuple ?_ | refine wpAny_specialOf (T := "member_descriptor") ⟨_, by first | exact Lg.old D9 (by assumption) rfl | exact Lg.at D9 _ (ixr 0 rfl), rfl⟩ sn_mem ?_))
  with_reducible refine wpAny_pure ?_
  ((with_reducible show wpAny _ _ (forIn _ _ _) _ _ _); first | refine zf_cons' (rfl : _ = _ :: _) ?_ | refine zf_nil' (rfl : _ = []) ?_)
  with_reducible refine wpAny_bind ?_
  ((with_reducible refine zi_f ?hc ?_); (case hc => first | decide | exact Bool.false_ne_true))
  with_reducible refine wpAny_bind ?_
  ((with_reducible show wpAny _ _ (specialOf _ (Str.ofString "__set_name__")) _ _ _); (first | refine wpAny_specialOf (typeIs_str _ _ _) sn_str ?_ | refine wpAny_specialOf (typeIs_int _ _ _) sn_int ?_ | refine wpAny_specialOf (typeIs_none _) sn_none ?_ | refine wpAny_specialOf (T := "function") ⟨_, by first | exact Lg.old D9 (by assumption) rfl | exact Lg.at D9 _ (ixr 0 rfl), rfl⟩ sn_func ?_ | refine wpAny_specialOf (T := "list") ⟨_, by first | exact Lg.old D9 (by assumption) rfl | exact Lg.at D9 _ (ixr 0 rfl), rfl⟩ sn_list ?_ | refine wpAny_specialOf (T := "tuple") ⟨_, by first | exact Lg.old D9 (by assumption) rfl | exact Lg.at D9 _ (ixr 0 rfl), rfl⟩ sn_tuple ?_ | refine wpAny_specialOf (T := "member_descriptor") ⟨_, by first | exact Lg.old D9 (by assumption) rfl | exact Lg.at D9 _ (ixr 0 rfl), rfl⟩ sn_mem ?_))
  with_reducible refine wpAny_pure ?_
  ((with_reducible show wpAny _ _ (forIn _ _ _) _ _ _); first | refine zf_cons' (rfl : _ = _ :: _) ?_ | refine zf_nil' (rfl : _ = []) ?_)
  with_reducible refine wpAny_bind ?_
  ((with_reducible refine zi_f ?hc ?_); (case hc => first | decide | exact Bool.false_ne_true))
  with_reducible refine wpAny_bind ?_
  ((with_reducible show wpAny _ _ (specialOf _ (Str.ofString "__set_name__")) _ _ _); (first | refine wpAny_specialOf (typeIs_str _ _ _) sn_str ?_ | refine wpAny_specialOf (typeIs_int _ _ _) sn_int ?_ | refine wpAny_specialOf (typeIs_none _) sn_none ?_ | refine wpAny_specialOf (T := "function") ⟨_, by first | exact Lg.old D9 (by assumption) rfl | exact Lg.at D9 _ (ixr 0 rfl), rfl⟩ sn_func ?_ | refine wpAny_specialOf (T := "list") ⟨_, by first | exact Lg.old D9 (by assumption) rfl | exact Lg.at D9 _ (ixr 0 rfl), rfl⟩ sn_list ?_ | refine wpAny_specialOf (T := "tuple") ⟨_, by first | exact Lg.old D9 (by assumption) rfl | exact Lg.at D9 _ (ixr 0 rfl), rfl⟩ sn_tuple ?_ | refine wpAny_specialOf (T := "member_descriptor") ⟨_, by first | exact Lg.old D9 (by assumption) rfl | exact Lg.at D9 _ (ixr 0 rfl), rfl⟩ sn_mem ?_))
  with_reducible refine wpAny_pure ?_
  ((with_reducible show wpAny _ _ (forIn _ _ _) _ _ _); first | refine zf_cons' (rfl : _ = _ :: _) ?_ | refine zf_nil' (rfl : _ = []) ?_)
  with_reducible refine wpAny_bind ?_
  ((with_reducible refine zi_f ?hc ?_); (case hc => first | decide | exact Bool.false_ne_true))
  with_reducible refine wpAny_bind ?_
  ((with_reducible show wpAny _ _ (specialOf _ (Str.ofString "__set_name__")) _ _ _); (first | refine wpAny_specialOf (typeIs_str _ _ _) sn_str ?_ | refine wpAny_specialOf (typeIs_int _ _ _) sn_int ?_ | refine wpAny_specialOf (typeIs_none _) sn_none ?_ | refine wpAny_specialOf (T := "function") ⟨_, by first | exact Lg.old D9 (by assumption) rfl | exact Lg.at D9 _ (ixr 0 rfl), rfl⟩ sn_func ?_ | refine wpAny_specialOf (T := "list") ⟨_, by first | exact Lg.old D9 (by assumption) rfl | exact Lg.at D9 _ (ixr 0 rfl), rfl⟩ sn_list ?_ | refine wpAny_specialOf (T := "tuple") ⟨_, by first | exact Lg.old D9 (by assumption) rfl | exact Lg.at D9 _ (ixr 0 rfl), rfl⟩ sn_tuple ?_ | refine wpAny_specialOf (T := "member_descriptor") ⟨_, by first | exact Lg.old D9 (by assumption) rfl | exact Lg.at D9 _ (ixr 0 rfl), rfl⟩ sn_mem ?_))
  with_reducible refine wpAny_pure ?_
  ((with_reducible show wpAny _ _ (forIn _ _ _) _ _ _); first | refine zf_cons' (rfl : _ = _ :: _) ?_ | refine zf_nil' (rfl : _ = []) ?_)
  with_reducible refine wpAny_bind ?_
  ((with_reducible refine zi_f ?hc ?_); (case hc => first | decide | exact Bool.false_ne_true))
  with_reducible refine wpAny_bind ?_
  ((with_reducible show wpAny _ _ (specialOf _ (Str.ofString "__set_name__")) _ _ _); (first | refine wpAny_specialOf (typeIs_str _ _ _) sn_str ?_ | refine wpAny_specialOf (typeIs_int _ _ _) sn_int ?_ | refine wpAny_specialOf (typeIs_none _) sn_none ?_ | refine wpAny_specialOf (T := "function") ⟨_, by first | exact Lg.old D9 (by assumption) rfl | exact Lg.at D9 _ (ixr 0 rfl), rfl⟩ sn_func ?_ | refine wpAny_specialOf (T := "list") ⟨_, by first | exact Lg.old D9 (by assumption) rfl | exact Lg.at D9 _ (ixr 0 rfl), rfl⟩ sn_list ?_ | refine wpAny_specialOf (T := "tuple") ⟨_, by first | exact Lg.old D9 (by assumption) rfl | exact Lg.at D9 _ (ixr 0 rfl), rfl⟩ sn_tuple ?_ | refine wpAny_specialOf (T := "member_descriptor") ⟨_, by first | exact Lg.old D9 (by assumption) rfl | exact Lg.at D9 _ (ixr 0 rfl), rfl⟩ sn_mem ?_))
  with_reducible refine wpAny_pure ?_
  ((with_reducible show wpAny _ _ (forIn _ _ _) _ _ _); first | refine zf_cons' (rfl : _ = _ :: _) ?_ | refine zf_nil' (rfl : _ = []) ?_)
  with_reducible refine wpAny_bind ?_
  ((with_reducible refine zi_f ?hc ?_); (case hc => first | decide | exact Bool.false_ne_true))
  with_reducible refine wpAny_bind ?_
  ((with_reducible show wpAny _ _ (specialOf _ (Str.ofString "__set_name__")) _ _ _); (first | refine wpAny_specialOf (typeIs_str _ _ _) sn_str ?_ | refine wpAny_specialOf (typeIs_int _ _ _) sn_int ?_ | refine wpAny_specialOf (typeIs_none _) sn_none ?_ | refine wpAny_specialOf (T := "function") ⟨_, by first | exact Lg.old D9 (by assumption) rfl | exact Lg.at D9 _ (ixr 0 rfl), rfl⟩ sn_func ?_ | refine wpAny_specialOf (T := "list") ⟨_, by first | exact Lg.old D9 (by assumption) rfl | exact Lg.at D9 _ (ixr 0 rfl), rfl⟩ sn_list ?_ | refine wpAny_specialOf (T := "tuple") ⟨_, by first | exact Lg.old D9 (by assumption) rfl | exact Lg.at D9 _ (ixr 0 rfl), rfl⟩ sn_tuple ?_ | refine wpAny_specialOf (T := "member_descriptor") ⟨_, by first | exact Lg.old D9 (by assumption) rfl | exact Lg.at D9 _ (ixr 0 rfl), rfl⟩ sn_mem ?_))
  with_reducible refine wpAny_pure ?_
  ((with_reducible show wpAny _ _ (forIn _ _ _) _ _ _); first | refine zf_cons' (rfl : _ = _ :: _) ?_ | refine zf_nil' (rfl : _ = []) ?_)
  with_reducible refine wpAny_bind ?_
  ((with_reducible refine zi_f ?hc ?_); (case hc => first | decide | exact Bool.false_ne_true))
  with_reducible refine wpAny_bind ?_
  ((with_reducible show wpAny _ _ (specialOf _ (Str.ofString "__set_name__")) _ _ _); (first | refine wpAny_specialOf (typeIs_str _ _ _) sn_str ?_ | refine wpAny_specialOf (typeIs_int _ _ _) sn_int ?_ | refine wpAny_specialOf (typeIs_none _) sn_none ?_ | refine wpAny_specialOf (T := "function") ⟨_, by first | exact Lg.old D9 (by assumption) rfl | exact Lg.at D9 _ (ixr 0 rfl), rfl⟩ sn_func ?_ | refine wpAny_specialOf (T := "list") ⟨_, by first | exact Lg.old D9 (by assumption) rfl | exact Lg.at D9 _ (ixr 0 rfl), rfl⟩ sn_list ?_ | refine wpAny_specialOf (T := "tuple") ⟨_, by first | exact Lg.old D9 (by assumption) rfl | exact Lg.at D9 _ (ixr 0 rfl), rfl⟩ sn_tuple ?_ | refine wpAny_specialOf (T := "member_descriptor") ⟨_, by first | exact Lg.old D9 (by assumption) rfl | exact Lg.at D9 _ (ixr 0 rfl), rfl⟩ sn_mem ?_))
  with_reducible refine wpAny_pure ?_
  ((with_reducible show wpAny _ _ (forIn _ _ _) _ _ _); first | refine zf_cons' (rfl : _ = _ :: _) ?_ | refine zf_nil' (rfl : _ = []) ?_)
  with_reducible refine wpAny_bind ?_
  ((with_reducible refine zi_f ?hc ?_); (case hc => first | decide | exact Bool.false_ne_true))
  with_reducible refine wpAny_bind ?_
  ((with_reducible show wpAny _ _ (specialOf _ (Str.ofString "__set_name__")) _ _ _); (first | refine wpAny_specialOf (typeIs_str _ _ _) sn_str ?_ | refine wpAny_specialOf (typeIs_int _ _ _) sn_int ?_ | refine wpAny_specialOf (typeIs_none _) sn_none ?_ | refine wpAny_specialOf (T := "function") ⟨_, by first | exact Lg.old D9 (by assumption) rfl | exact Lg.at D9 _ (ixr 0 rfl), rfl⟩ sn_func ?_ | refine wpAny_specialOf (T := "list") ⟨_, by first | exact Lg.old D9 (by assumption) rfl | exact Lg.at D9 _ (ixr 0 rfl), rfl⟩ sn_list ?_ | refine wpAny_specialOf (T := "tuple") ⟨_, by first | exact Lg.old D9 (by assumption) rfl | exact Lg.at D9 _ (ixr 0 rfl), rfl⟩ sn_tuple ?_ | refine wpAny_specialOf (T := "member_descriptor") ⟨_, by first | exact Lg.old D9 (by assumption) rfl | exact Lg.at D9 _ (ixr 0 rfl), rfl⟩ sn_mem ?_))
  with_reducible refine wpAny_pure ?_
  ((with_reducible show wpAny _ _ (forIn _ _ _) _ _ _); first | refine zf_cons' (rfl : _ = _ :: _) ?_ | refine zf_nil' (rfl : _ = []) ?_)
  with_reducible refine wpAny_bind ?_
  ((with_reducible refine zi_f ?hc ?_); (case hc => first | decide | exact Bool.false_ne_true))
  with_reducible refine wpAny_bind ?_
  ((with_reducible show wpAny _ _ (specialOf _ (Str.ofString "__set_name__")) _ _ _); (first | refine wpAny_specialOf (typeIs_str _ _ _) sn_str ?_ | refine wpAny_specialOf (typeIs_int _ _ _) sn_int ?_ | refine wpAny_specialOf (typeIs_none _) sn_none ?_ | refine wpAny_specialOf (T := "function") ⟨_, by first | exact Lg.old D9 (by assumption) rfl | exact Lg.at D9 _ (ixr 0 rfl), rfl⟩ sn_func ?_ | refine wpAny_specialOf (T := "list") ⟨_, by first | exact Lg.old D9 (by assumption) rfl | exact Lg.at D9 _ (ixr 0 rfl), rfl⟩ sn_list ?_ | refine wpAny_specialOf (T := "tuple") ⟨_, by first | exact Lg.old D9 (by assumption) rfl | exact Lg.at D9 _ (ixr 0 rfl), rfl⟩ sn_tuple ?_ | refine wpAny_specialOf (T := "member_descriptor") ⟨_, by first | exact Lg.old D9 (by assumption) rfl | exact Lg.at D9 _ (ixr 0 rfl), rfl⟩ sn_mem ?_))
  with_reducible refine wpAny_pure ?_
  ((with_reducible show wpAny _ _ (forIn _ _ _) _ _ _); first | refine zf_cons' (rfl : _ = _ :: _) ?_ | refine zf_nil' (rfl : _ = []) ?_)
  with_reducible refine wpAny_bind ?_
  conv => arg 3; whnf
  refine ca ?_
  refine sup1 (k := k+5) (hA.in1.in1) (D9.in2 kin) (D9.at 1 rfl) fun su h9 t9 kp e9 n9 => ?_
  replace D9 := D9.one kp e9 n9
  clear kp e9 n9
  with_reducible refine zb ?_
  with_reducible refine x_pure ?_
  with_reducible refine wpAny_pure ?_
  with_reducible refine wpAny_bind ?_
  with_reducible refine wpAny_holding ?_
  conv => arg 3; whnf
  ((with_reducible show wpAny _ _ (.fresh _) _ _ _); with_reducible refine za_fresh ?_)
  with_reducible refine zb ?_
  with_reducible refine zb ?_
  with_reducible refine x_pure ?_
  with_reducible refine wpAny_pure ?_
  conv => arg 3; whnf
  ((with_reducible show wpAny _ _ (.load _ _ _) _ _ _); ((with_reducible refine' za_load ?ho ?_); (case ho => exact Lg.at D9 _ (ixr 0 rfl))))
  refine ca ?_
  rw [show (Value.builtin (toString "super" ++ toString "." ++ toString (Str.ofString "__getattribute__").toString)) = .builtin "super.__getattribute__" from by kernel_rfl]
  refine sg1 (k := k+3) (hA.in1.in1) (D9.in2 kin) (D9.at 0 rfl) (D9.at 2 rfl) fun bm h9 t9 kp e9 n9 => ?_
  replace D9 := D9.one kp e9 n9
  clear kp e9 n9
  conv => arg 3; whnf
  with_reducible refine x_pure ?_
  with_reducible refine wpAny_bind ?_
  conv => arg 3; whnf
  refine ca ?_
  subst hqn
  refine is1 (k := k+5) (hA.in1.in1) (D9.in2 kin) (D9.at 0 rfl) (D9.at 3 rfl) fun t9 => ?_
  with_reducible refine zb ?_
  with_reducible refine x_pure ?_
  with_reducible refine wpAny_pure ?_
  with_reducible refine wpAny_pure ?_
  refine wpAny_pure ?_
  show wpAny _ _ _ _ _ _
  with_reducible refine wpAny_bind ?_
  refine wpAny_isInstance (T := "type") ⟨_, D9.at 3 rfl, rfl⟩ sub_type ?_
  ((with_reducible refine zi_f ?hc ?_); (case hc => first | decide | exact Bool.false_ne_true))
  with_reducible refine wpAny_bind ?_
  with_reducible refine wpAny_holding ?_
  refine wpAny_callSpecial?_slot ⟨_, D9.at 3 rfl, rfl⟩ slot_type_init (wpAny_call_entry slot_type_init ⟨_, D9.at 3 rfl, rfl⟩ entry_type_init ?_ (args_type_init _ _ _ _))
  unfold Builtin.«type.__init__»
  ((with_reducible refine zi_f ?hc ?_); (case hc => first | decide | exact Bool.false_ne_true))
  ((with_reducible refine zi_f ?hc ?_); (case hc => first | decide | exact Bool.false_ne_true))
  show wpAny _ _ (pure (Fin.done (Flow.ret .none))) _ _ _
  refine wpAny_pure ⟨.none, rfl, ?_⟩
  ((with_reducible refine zi_f ?hc ?_); (case hc => first | decide | exact Bool.false_ne_true))
  refine wpAny_pure ?_
  have kp : ∀ c o, h0.get? c = some o → h9.get? c = some o := fun c o e => D9.keep c o e (fun p hp => nomatch hp)
  refine hQ kA nsK mD h9 _ kp (D9.nw (kA, _) (List.mem_of_getElem? (i := 3) rfl)).2 (D9.nw (nsK, _) (List.mem_of_getElem? (i := 4) rfl)).2 (D9.nw (mD, _) (List.mem_of_getElem? (i := 2) rfl)).2 (D9.ne 3 4 rfl rfl rfl) (D9.ne 3 2 rfl rfl rfl) (D9.ne 4 2 rfl rfl rfl) (D9.at 3 rfl) ⟨_, _, _, _, _, D9.at 4 rfl⟩ ⟨_, D9.at 2 rfl⟩
end PartKT

section PartKD
open PySem.Builtin
open PySem.W.X
noncomputable abbrev cEnv (nsA cM cK fK : Addr) : Env :=
  { scope := { kind := ScopeKind.class, names := ([("__module__", .local), ("__slots__", .local), ("__init__", .local), ("__lt__", .local), ("__gt__", .local), ("__eq__", .local), ("__le__", .local), ("__ge__", .local), ("__hash__", .local), ("mycmp", .free)] : List (Str × NameKind)), isGenerator := false, isCoroutine := false },
    locals := nsA, globals := 3, cells := (Option.map (fun x => (Str.ofString "__class__", x)) (none : Option Addr)).toList ++ (Option.map (fun x => (Str.ofString "__classdict__", x)) (none : Option Addr)).toList ++ [(Str.ofString "mycmp", cM)],
    qual := Str.ofString "cmp_to_key.<locals>.K" ++ Str.ofString ".", code := Value.ref cK, frame := some fK }
noncomputable abbrev ltPar (q1 q2 : Pos) : Arguments :=
  { posonlyargs := [], args := [{ arg := Str.ofString "self", annotation := none, pos := q1 }, { arg := Str.ofString "other", annotation := none, pos := q2 }], vararg := none, kwonlyargs := [], kw_defaults := [], kwarg := none, defaults := [] }
noncomputable abbrev ltScope : Scope := { kind := ScopeKind.function, names := ([("self", .local), ("other", .local), ("mycmp", .free)] : List (Str × NameKind)), isGenerator := false, isCoroutine := false }
noncomputable abbrev opBody (op : CmpOp) (p1 p2 p3 p4 p5 p6 p7 p8 p9 : Pos) : List Stmt :=
  [.Return (some (.Compare (.Call (.Name (Str.ofString "mycmp") p1) [.Attribute (.Name (Str.ofString "self") p2) (Str.ofString "obj") p3, .Attribute (.Name (Str.ofString "other") p4) (Str.ofString "obj") p5] [] p6) [op] [.Constant (.int 0) 0 p7] p8)) p9]
/-- the function of a comparison -/
noncomputable def ltFd (name qf : Str) (op : CmpOp) (q1 q2 p1 p2 p3 p4 p5 p6 p7 p8 p9 : Pos) (cM cd ct : Addr) (pm : Value) : FuncData :=
  { name := name, qualname := qf, params := ltPar q1 q2, body := FuncBody.stmts (opBody op p1 p2 p3 p4 p5 p6 p7 p8 p9), scope := ltScope, globals := 3, closure := [(Str.ofString "mycmp", cM)], defaults := Value.none, kwdefaults := Value.none,
    pyModule := pm, code := Value.ref cd, closureTuple := Value.ref ct }
theorem Lg.perm {h₀ h : Heap} {chg news news' : List (Addr × Obj)} (D : Lg h₀ h chg news) (p : news.Perm news') : Lg h₀ h chg news' :=
  ⟨D.keep, D.ch, fun q hq => D.nw q (p.mem_iff.mpr hq), (p.map _).nodup_iff.mp D.nd⟩
theorem Lg.sub {h₀ h : Heap} {chg news news' : List (Addr × Obj)} (D : Lg h₀ h chg news) (s : news'.Sublist news) : Lg h₀ h chg news' :=
  ⟨D.keep, D.ch, fun q hq => D.nw q (s.subset hq), (s.map _).nodup D.nd⟩
theorem Lg.front {h₀ h : Heap} {chg a b T : List (Addr × Obj)} (D : Lg h₀ h chg (a ++ (b ++ T))) : Lg h₀ h chg (b ++ (a ++ T)) :=
  D.perm (by rw [← List.append_assoc, ← List.append_assoc]; exact List.perm_append_comm.append_right T)
theorem ln_eq (op : CmpOp) (q1 q2 p1 p2 p3 p4 p5 p6 p7 p8 p9 : Pos) : localNames (ltPar q1 q2) ltScope (FuncBody.stmts (opBody op p1 p2 p3 p4 p5 p6 p7 p8 p9)) = some ([Str.ofString "self", Str.ofString "other"], []) := by
  cases op <;> rfl
set_option maxHeartbeats 20000000 in
theorem def_step {w : World} {A2 : Around} {h0 h9 : Heap} {g9 : Array GenState} {d9 : Drawn} {t9 : Nat} {os9 : OsState} {Q : Flow → Shared → Prop} {E : Value → Shared → Prop} {o40 : Obj} {T : List (Addr × Obj)}
    {nsA cM cK fK tA : Addr} {l : List DictEntry} {n : Nat} {lt : List Value} {name : Str} {op : CmpOp} {q1 q2 p1 p2 p3 p4 p5 p6 p7 p8 p9 pd : Pos}
    {x0 x1 x2 x3 x4 x5 x6 x8 x12 x13 x14 x15 x16 x17 : Value} {fl i10 : Int} {k7 k10 k18 : Tok} {b9 : Bool} {file : Str}
    (kin : (hd.heap_39 w.params).In h0)
    (D9 : Lg h0 h9 [(40, o40)] ((nsA, dO l n) :: (tA, tabO lt) :: (cK, { cls := .type "code", data := .fields #[x0, x1, x2, x3, x4, x5, x6, .int fl k7, x8, .bool b9, .int i10 k10, .ref tA, x12, x13, x14, x15, x16, x17, .str file k18] }) :: T))
    (hs : ∀ v, storeName (cEnv nsA cM cK fK) name v = PySem.localSet (cEnv nsA cM cK fK) name v) (hk : newKey name l = true) (hc : codeAmong pd lt = none) (hc2 : ∀ v, codeAmong pd (lt ++ [rawInt (pd.line : Int), rawInt (pd.col : Int), v]) = some v)
    (hQ : ∀ f cd ct qf tq vs pm hsh tk h' t', vs[1]? = some (Value.str qf tq) →
      Lg h0 h' [(40, o40)] ((nsA, dO (l ++ [(⟨hsh, .str name tk, .ref f⟩ : DictEntry)]) (n + 1)) :: (tA, tabO (lt ++ [rawInt (pd.line : Int), rawInt (pd.col : Int), .ref cd])) ::
        (cK, { cls := .type "code", data := .fields #[x0, x1, x2, x3, x4, x5, x6, .int fl k7, x8, .bool b9, .int i10 k10, .ref tA, x12, x13, x14, x15, x16, x17, .str file k18] }) ::
        (f, { cls := .type "function", data := .func (ltFd name qf op q1 q2 p1 p2 p3 p4 p5 p6 p7 p8 p9 cM cd ct pm) }) :: (cd, { cls := .type "code", data := .fields vs }) :: T) → Q .next ⟨h', g9, d9, t', os9⟩) :
    wpAny (model P w) A2 (exec (.FunctionDef name (ltPar q1 q2) (opBody op p1 p2 p3 p4 p5 p6 p7 p8 p9) [] none [] ltScope none name pd) (cEnv nsA cM cK fK)) Q E ⟨h9, g9, d9, t9, os9⟩ := by
  try simp only [List.getElem_toArray, List.getElem_cons_succ, List.getElem_cons_zero] at D9 ⊢
  rw [exec_def]
  with_reducible refine wpAny_bind ?_
  with_reducible refine wpAny_standAt ?_
  with_reducible refine wpAny_bind ?_
  with_reducible refine wpAny_holding ?_
  with_reducible refine wpAny_bind ?_
  conv => arg 3; whnf
  with_reducible refine x_pure ?_
  with_reducible refine wpAny_bind ?_
  with_reducible refine wpAny_holding ?_
  dsimp only [List.lookup_nil, List.nil_append, List.append_nil, List.cons_append, List.map_nil, List.map_cons, List.filter_nil]
  conv => arg 3; whnf
  with_reducible refine x_pure ?_
  with_reducible refine wpAny_holding ?_
  with_reducible refine wpAny_bind ?_
  conv => arg 3; whnf
  with_reducible refine x_pure ?_
  generalize hq : qualnameIn _ _ _ = qf
  clear hq
  unfold makeFunction
  ((with_reducible refine zi_t ?hc ?_); (case hc => first | decide | exact (rfl : true = true)))
  with_reducible refine wpAny_bind ?_
  with_reducible refine wpAny_pure ?_
  ((with_reducible refine zi_t ?hc ?_); (case hc => first | decide | exact (rfl : true = true)))
  with_reducible refine wpAny_bind ?_
  with_reducible refine wpAny_pure ?_
  ((with_reducible refine zi_t ?hc ?_); (case hc => first | decide | exact (rfl : true = true)))
  with_reducible refine wpAny_bind ?_
  with_reducible refine wpAny_pure ?_
  with_reducible refine wpAny_bind ?_
  dsimp only [List.lookup_nil, List.nil_append, List.append_nil, List.cons_append, List.map_nil, List.map_cons, List.filter_nil]
  conv => arg 3; whnf
  with_reducible refine x_pure ?_
  ((with_reducible refine zi_f ?hc ?_); (case hc => first | decide | exact Bool.false_ne_true))
  with_reducible refine wpAny_bind ?_
  rw [List.mergeSort_singleton]
  show wpAny _ _ (newTextTuple [Value.ref _]) _ _ _
  dsimp only [List.lookup_nil, List.nil_append, List.append_nil, List.cons_append, List.map_nil, List.map_cons, List.filter_nil]
  conv => arg 3; whnf
  ((with_reducible show wpAny _ _ (.alloc _ _) _ _ _); ((refine za_alloc D9 ?hf ?_); (case hf => rfl); (clear D9; intro a9 h9 D9)))
  with_reducible refine zb ?_
  with_reducible refine x_pure ?_
  with_reducible refine wpAny_pure ?_
  with_reducible refine wpAny_bind ?_
  unfold functionCode
  unfold codeAt
  ((with_reducible refine zi_f ?hc ?_); (case hc => first | decide | exact Bool.false_ne_true))
  with_reducible refine wpAny_bind ?_
  ((with_reducible show wpAny _ _ (fieldsOf (Value.ref _)) _ _ _); (refine' wpAny_fieldsOf ?ho ?hd ?_); (case ho => exact Lg.at D9 _ (ixr 3 rfl)); (case hd => rfl))
  dsimp only [List.lookup_nil, List.nil_append, List.append_nil, List.cons_append, List.map_nil, List.map_cons, List.filter_nil]
  generalize e11 : Array.getD _ 11 Value.none = v11
  change Value.ref _ = v11 at e11
  subst e11
  with_reducible refine wpAny_bind ?_
  ((with_reducible show wpAny _ _ (fieldsOf (Value.ref _)) _ _ _); (refine' wpAny_fieldsOf ?ho ?hd ?_); (case ho => exact Lg.at D9 _ (ixr 2 rfl)); (case hd => rfl))
  dsimp only [List.lookup_nil, List.nil_append, List.append_nil, List.cons_append, List.map_nil, List.map_cons, List.filter_nil]
  generalize e1 : codeAmong _ _ = v1
  obtain rfl : v1 = none := by rw [← e1]; exact hc
  clear e1
  generalize e2 : Array.getD _ 18 Value.none = v2
  change Value.str _ _ = v2 at e2
  subst e2
  generalize e3 : Array.getD _ 7 Value.none = v3
  change Value.int _ _ = v3 at e3
  subst e3
  generalize e4 : Array.getD _ 9 Value.none = v4
  change Value.bool _ = v4 at e4
  subst e4
  generalize e5 : Array.getD _ 10 Value.none = v5
  change Value.int _ _ = v5 at e5
  subst e5
  with_reducible refine wpAny_bind ?_
  unfold newCode
  generalize hfr : Scope.freeNames _ = fr
  obtain rfl : fr = [Str.ofString "mycmp"] := by
    rw [← hfr]
    simp [Scope.freeNames]
  clear hfr
  rw [ln_eq]
  with_reducible refine wpAny_bind ?_
  dsimp only [List.lookup_nil, List.nil_append, List.append_nil, List.cons_append, List.map_nil, List.map_cons, List.filter_nil]
  conv => arg 3; whnf
  ((with_reducible show wpAny _ _ (.fresh _) _ _ _); with_reducible refine za_fresh ?_)
  with_reducible refine zb ?_
  with_reducible refine x_pure ?_
  with_reducible refine wpAny_pure ?_
  with_reducible refine wpAny_bind ?_
  conv => arg 3; whnf
  ((with_reducible show wpAny _ _ (.fresh _) _ _ _); with_reducible refine za_fresh ?_)
  with_reducible refine zb ?_
  with_reducible refine x_pure ?_
  with_reducible refine wpAny_pure ?_
  with_reducible refine wpAny_bind ?_
  conv => arg 3; whnf
  ((with_reducible show wpAny _ _ (.fresh _) _ _ _); with_reducible refine za_fresh ?_)
  with_reducible refine zb ?_
  with_reducible refine x_pure ?_
  with_reducible refine wpAny_pure ?_
  with_reducible refine wpAny_bind ?_
  conv => arg 3; whnf
  ((with_reducible show wpAny _ _ (.fresh _) _ _ _); with_reducible refine za_fresh ?_)
  with_reducible refine zb ?_
  with_reducible refine zb ?_
  with_reducible refine x_pure ?_
  with_reducible refine wpAny_pure ?_
  conv => arg 3; whnf
  with_reducible refine x_pure ?_
  with_reducible refine wpAny_bind ?_
  conv => arg 3; whnf
  ((with_reducible show wpAny _ _ (.alloc _ _) _ _ _); ((refine za_alloc D9 ?hf ?_); (case hf => rfl); (clear D9; intro a9 h9 D9)))
  with_reducible refine zb ?_
  with_reducible refine x_pure ?_
  with_reducible refine wpAny_pure ?_
  with_reducible refine wpAny_bind ?_
  conv => arg 3; whnf
  ((with_reducible show wpAny _ _ (.alloc _ _) _ _ _); ((refine za_alloc D9 ?hf ?_); (case hf => rfl); (clear D9; intro a9 h9 D9)))
  with_reducible refine x_pure ?_
  with_reducible refine wpAny_bind ?_
  conv => arg 3; whnf
  ((with_reducible show wpAny _ _ (.fresh _) _ _ _); with_reducible refine za_fresh ?_)
  with_reducible refine zb ?_
  with_reducible refine zb ?_
  with_reducible refine x_pure ?_
  with_reducible refine wpAny_pure ?_
  conv => arg 3; whnf
  ((with_reducible show wpAny _ _ (.fresh _) _ _ _); with_reducible refine za_fresh ?_)
  with_reducible refine zb ?_
  with_reducible refine zb ?_
  with_reducible refine x_pure ?_
  with_reducible refine wpAny_pure ?_
  conv => arg 3; whnf
  with_reducible refine x_pure ?_
  with_reducible refine wpAny_bind ?_
  conv => arg 3; whnf
  ((with_reducible show wpAny _ _ (.alloc _ _) _ _ _); ((refine za_alloc D9 ?hf ?_); (case hf => rfl); (clear D9; intro a9 h9 D9)))
  with_reducible refine zb ?_
  with_reducible refine x_pure ?_
  with_reducible refine wpAny_pure ?_
  with_reducible refine wpAny_bind ?_
  conv => arg 3; whnf
  with_reducible refine x_pure ?_
  with_reducible refine wpAny_bind ?_
  conv => arg 3; whnf
  ((with_reducible show wpAny _ _ (.alloc _ _) _ _ _); ((refine za_alloc D9 ?hf ?_); (case hf => rfl); (clear D9; intro a9 h9 D9)))
  with_reducible refine zb ?_
  with_reducible refine x_pure ?_
  with_reducible refine wpAny_pure ?_
  with_reducible refine wpAny_bind ?_
  conv => arg 3; whnf
  ((with_reducible show wpAny _ _ (.alloc _ _) _ _ _); ((refine za_alloc D9 ?hf ?_); (case hf => rfl); (clear D9; intro a9 h9 D9)))
  with_reducible refine x_pure ?_
  with_reducible refine wpAny_bind ?_
  with_reducible refine wpAny_pure ?_
  with_reducible refine wpAny_bind ?_
  conv => arg 3; whnf
  ((with_reducible show wpAny _ _ (.fresh _) _ _ _); with_reducible refine za_fresh ?_)
  with_reducible refine x_pure ?_
  with_reducible refine wpAny_bind ?_
  conv => arg 3; whnf
  ((with_reducible show wpAny _ _ (.fresh _) _ _ _); with_reducible refine za_fresh ?_)
  with_reducible refine zb ?_
  with_reducible refine x_pure ?_
  with_reducible refine wpAny_pure ?_
  conv => arg 3; whnf
  ((with_reducible show wpAny _ _ (.alloc _ _) _ _ _); ((refine za_alloc D9 ?hf ?_); (case hf => rfl); (clear D9; intro a9 h9 D9)))
  with_reducible refine zb ?_
  with_reducible refine x_pure ?_
  with_reducible refine wpAny_pure ?_
  with_reducible refine wpAny_bind ?_
  refine za_tab D9 _ (ixr 8 rfl) hc fun h9 D9 => ?_
  simp only [List.set_cons_zero, List.set_cons_succ, List.cons_append, List.nil_append] at D9
  with_reducible refine wpAny_bind ?_
  ((with_reducible show wpAny _ _ (fieldsOf (Value.ref _)) _ _ _); (refine' wpAny_fieldsOf ?ho ?hd ?_); (case ho => exact Lg.at D9 _ (ixr 8 rfl)); (case hd => rfl))
  dsimp only [List.lookup_nil, List.nil_append, List.append_nil, List.cons_append, List.map_nil, List.map_cons, List.filter_nil]
  rw [hc2]
  with_reducible refine wpAny_pure ?_
  with_reducible refine wpAny_bind ?_
  rw [show docOf (opBody op p1 p2 p3 p4 p5 p6 p7 p8 p9) = none from rfl]
  dsimp only [List.lookup_nil, List.nil_append, List.append_nil, List.cons_append, List.map_nil, List.map_cons, List.filter_nil]
  conv => arg 3; whnf
  ((with_reducible show wpAny _ _ (.load _ _ _) _ _ _); ((with_reducible refine' za_load ?ho ?_); (case ho => exact Lg.old D9 (kin _ _ rfl) rfl)))
  with_reducible refine zb ?_
  with_reducible refine zb ?_
  with_reducible refine x_pure ?_
  dsimp only [List.lookup_nil, List.nil_append, List.append_nil, List.cons_append, List.map_nil, List.map_cons, List.filter_nil]
  conv => arg 3; whnf
  with_reducible refine x_pure ?_
  ((with_reducible refine zi_f ?hc ?_); (case hc => first | decide | exact Bool.false_ne_true))
  with_reducible refine wpAny_bind ?_
  conv => arg 3; whnf
  ((with_reducible show wpAny _ _ (.load _ _ _) _ _ _); ((with_reducible refine' za_load ?ho ?_); (case ho => exact Lg.old D9 (kin _ _ rfl) rfl)))
  with_reducible refine x_pure ?_
  ((with_reducible refine zi_t ?hc ?_); (case hc => first | decide | exact (rfl : true = true)))
  with_reducible refine wpAny_pure ?_
  with_reducible refine wpAny_bind ?_
  ((with_reducible show wpAny _ _ (nsGet _ _) _ _ _); (show wpAny _ _ (nsGet 3 _) _ _ _); refine Looks.here (looks_nsIn (Lg.k2 kin D9 (by simp)) (by rfl)) ?_)
  with_reducible refine wpAny_bind ?_
  with_reducible refine wpAny_pure ?_
  dsimp only [List.lookup_nil, List.nil_append, List.append_nil, List.cons_append, List.map_nil, List.map_cons, List.filter_nil]
  conv => arg 3; whnf
  ((with_reducible show wpAny _ _ (.alloc _ _) _ _ _); ((refine za_alloc D9 ?hf ?_); (case hf => rfl); (clear D9; intro a9 h9 D9)))
  with_reducible refine zb ?_
  with_reducible refine x_pure ?_
  with_reducible refine wpAny_pure ?_
  with_reducible refine wpAny_bind ?_
  with_reducible refine wpAny_standAt ?_
  with_reducible refine wpAny_bind ?_
  unfold bindName
  with_reducible refine wpAny_bind ?_
  with_reducible refine wpAny_holding ?_
  with_reducible refine wpAny_point ?_
  with_reducible refine wpAny_bind ?_
  rw [hs]
  unfold PySem.localSet
  with_reducible refine wpAny_bind ?_
  dsimp only [List.lookup_nil, List.nil_append, List.append_nil, List.cons_append, List.map_nil, List.map_cons, List.filter_nil]
  conv => arg 3; whnf
  ((with_reducible show wpAny _ _ (.load _ _ _) _ _ _); ((with_reducible refine' za_load ?ho ?_); (case ho => exact Lg.at D9 _ (ixr 8 rfl))))
  with_reducible refine x_pure ?_
  ((with_reducible refine zi_t ?hc ?_); (case hc => first | decide | exact (rfl : true = true)))
  refine za_nsAdd D9 _ (ixr 8 rfl) hk fun hsh tk h9 t9 D9 => ?_
  simp only [List.set_cons_zero, List.set_cons_succ, List.cons_append, List.nil_append] at D9
  with_reducible refine wpAny_point ?_
  with_reducible refine wpAny_pure ?_
  have D8 := D9.sub (news' := [_, _] ++ ([_, _, _] ++ T)) (.cons₂ _ (.cons₂ _ (.cons _ (.cons _ (.cons _ (.cons _ (.cons _ (.cons _ (List.Sublist.refl _)))))))))
  exact hQ _ _ _ _ _ _ _ _ _ _ _ rfl D8.front
end PartKD

section PartK5
open PySem.Builtin
open PySem.W.X
noncomputable def pk {α : Type} : List Nat → List α → List α
  | [], _ => []
  | i :: r, l => match l.drop i with
    | x :: _ => x :: pk r l
    | [] => pk r l
theorem pk_nil {α : Type} (l : List α) : pk [] l = [] := rfl
theorem pk_cons {α : Type} (i : Nat) (r : List Nat) (l : List α) : pk (i :: r) l = (match l.drop i with | x :: _ => x :: pk r l | [] => pk r l) := rfl
theorem pk_mem {α : Type} : ∀ (ix : List Nat) (l : List α), ∀ x ∈ pk ix l, ∃ i ∈ ix, l[i]? = some x
  | [], _, _, h => by cases h
  | i :: r, l, x, h => by
    rw [pk_cons] at h
    cases e : l.drop i with
    | nil =>
      rw [e] at h
      obtain ⟨j, hj, q⟩ := pk_mem r l x h
      exact ⟨j, .tail _ hj, q⟩
    | cons y t =>
      rw [e] at h
      rcases List.mem_cons.mp h with rfl | h
      · refine ⟨i, .head _, ?_⟩
        have := congrArg List.head? e
        rw [List.head?_drop] at this
        exact this
      · obtain ⟨j, hj, q⟩ := pk_mem r l x h
        exact ⟨j, .tail _ hj, q⟩
theorem pk_nodup : ∀ (ix : List Nat) (l : List (Addr × Obj)), ix.Nodup → (l.map (·.1)).Nodup → ((pk ix l).map (·.1)).Nodup
  | [], _, _, _ => List.nodup_nil
  | i :: r, l, hi, hl => by
    have ih := pk_nodup r l (List.nodup_cons.mp hi).2 hl
    rw [pk_cons]
    cases e : l.drop i with
    | nil => exact ih
    | cons y t =>
      refine List.nodup_cons.mpr ⟨fun hm => ?_, ih⟩
      obtain ⟨x, hx, ex⟩ := List.mem_map.mp hm
      obtain ⟨j, hj, q⟩ := pk_mem r l x hx
      have hy : l[i]? = some y := by
        have := congrArg List.head? e
        rw [List.head?_drop] at this
        exact this
      have hij : i ≠ j := fun z => (List.nodup_cons.mp hi).1 (z ▸ hj)
      have a1 : (l.map (·.1))[i]? = some y.1 := by rw [List.getElem?_map, hy]; rfl
      have a2 : (l.map (·.1))[j]? = some y.1 := by rw [List.getElem?_map, q]; exact congrArg some ex
      obtain ⟨l1, e1⟩ := List.getElem?_eq_some_iff.mp a1
      obtain ⟨l2, e2⟩ := List.getElem?_eq_some_iff.mp a2
      have pw := List.pairwise_iff_getElem.mp hl
      rcases Nat.lt_or_gt_of_ne hij with z | z
      · exact pw i j l1 l2 z (by rw [e1, e2])
      · exact pw j i l2 l1 z (by rw [e1, e2])
theorem Lg.pick {h₀ h : Heap} {chg news : List (Addr × Obj)} (D : Lg h₀ h chg news) (ix : List Nat) (hi : ix.Nodup) : Lg h₀ h chg (pk ix news) :=
  ⟨D.keep, D.ch, fun q hq => let ⟨_, _, e⟩ := pk_mem ix news q hq; D.nw q (List.mem_of_getElem? e), pk_nodup ix news hi D.nd⟩
set_option maxHeartbeats 20000000 in
theorem mkK {w : World} {A : Around} {s : Shared} {k : Nat} {Q E : Value → Shared → Prop} (kin : (hd.heap_39 w.params).In s.heap) (hA : Ok (k+9) A)
    (hQ : ∀ K s', KOk w s K s' → Q (.ref K) s') :
   wpAny (model P w) A (call (.ref 45) [.ref 214] []) Q E s := by
  refine wpAny_call (codeAny_call_function hA.room (kin _ _ rfl) rfl rfl rfl rfl (codeRec_of (K2_in kin) rfl) (BindsTo.of_eq (binds := [("mycmp", .ref 214)]) rfl _ _ _ _ ?_))
  obtain ⟨h0, g9, d9, t9, os9⟩ := s
  change (hd.heap_39 w.params).In h0 at kin
  have D9 := Lg.start h0
  unfold newFunctionEnv
  with_reducible refine wpAny_bind ?_
  conv => arg 3; whnf
  ((with_reducible show wpAny _ _ (.alloc _ _) _ _ _); ((refine za_alloc D9 ?hf ?_); (case hf => rfl); (clear D9; intro a9 h9 D9)))
  with_reducible refine x_pure ?_
  with_reducible refine wpAny_bind ?_
  with_reducible refine zf_cons ?_
  with_reducible refine wpAny_bind ?_
  ((with_reducible refine zi_t ?hc ?_); (case hc => first | decide | exact (rfl : true = true)))
  with_reducible refine wpAny_bind ?_
  dsimp only [List.lookup_nil, List.nil_append, List.append_nil, List.cons_append, List.map_nil, List.map_cons, List.filter_nil]
  conv => arg 3; whnf
  ((with_reducible show wpAny _ _ (.alloc _ _) _ _ _); ((refine za_alloc D9 ?hf ?_); (case hf => rfl); (clear D9; intro a9 h9 D9)))
  with_reducible refine x_pure ?_
  with_reducible refine wpAny_pure ?_
  with_reducible refine zf_cons ?_
  with_reducible refine wpAny_bind ?_
  ((with_reducible refine zi_f ?hc ?_); (case hc => first | decide | exact Bool.false_ne_true))
  with_reducible refine wpAny_pure ?_
  with_reducible refine zf_cons ?_
  with_reducible refine wpAny_bind ?_
  ((with_reducible refine zi_f ?hc ?_); (case hc => first | decide | exact Bool.false_ne_true))
  with_reducible refine wpAny_pure ?_
  with_reducible refine zf_nil ?_
  with_reducible refine wpAny_bind ?_
  with_reducible refine zf_cons ?_
  with_reducible refine wpAny_bind ?_
  with_reducible refine wpAny_bind ?_
  conv => arg 3; whnf
  ((with_reducible show wpAny _ _ (.load _ _ _) _ _ _); ((with_reducible refine' za_load ?ho ?_); (case ho => exact Lg.at D9 _ (ixr 0 rfl))))
  with_reducible refine zb ?_
  with_reducible refine x_pure ?_
  conv => arg 3; whnf
  ((with_reducible show wpAny _ _ (.update _ _ _ _) _ _ _); ((refine' za_update D9 _ (ixr 0 rfl) ?hf ?_); (case hf => rfl); (clear D9; intro h9 D9; simp only [List.set_cons_zero, List.set_cons_succ, List.cons_append, List.nil_append] at D9)))
  with_reducible refine x_pure ?_
  with_reducible refine wpAny_pure ?_
  with_reducible refine zf_nil ?_
  with_reducible refine wpAny_pure ?_
  (simp only [List.set_cons_zero, List.set_cons_succ, Option.isSome_none, Option.isSome_some, Bool.false_eq_true, if_false, if_true] at D9)
  refine ⟨noLimitL kin D9 rfl, codeAny_func ?_⟩
  refine gen_Q fun Qf hf => ?_
  with_reducible refine wpAny_execs_cons ?_
  refine gen_Q fun Qd hd9 => ?_
  rw [arm_exec_ClassDef]
  refine wpAny_bind (m := evalAll _) (wpAny_pure ?_)
  with_reducible refine wpAny_bind ?_
  with_reducible refine wpAny_standAt ?_
  with_reducible refine wpAny_bind ?_
  unfold buildClassGuard
  with_reducible refine wpAny_bind ?_
  have kin9 := Lg.k2 kin D9 (by simp)
  refine Looks.here (looks_nsIn kin9 (r := some (.builtin "__build_class__")) rfl) ?_
  conv => arg 3; whnf
  with_reducible refine x_pure ?_
  with_reducible refine wpAny_bind ?_
  with_reducible refine wpAny_holding ?_
  with_reducible refine wpAny_bind ?_
  refine Calls.evalArgs_plain ?_
  show wpAny _ _ (spliced [(false, eval _ _)]) _ _ _
  refine Calls.spliced_cons (nz_b kin9 rfl rfl rfl rfl rfl rfl rfl (Calls.spliced_nil ?_))
  dsimp only
  with_reducible refine wpAny_bind ?_
  with_reducible refine wpAny_standAt ?_
  with_reducible refine wpAny_holding ?_
  generalize hqn : qualnameIn _ _ _ = qn
  obtain rfl : qn = Str.ofString "cmp_to_key.<locals>.K" := by rw [← hqn]; kernel_rfl
  clear hqn
  unfold buildClass
  with_reducible refine wpAny_bind ?_
  conv => arg 3; whnf
  ((with_reducible show wpAny _ _ (.alloc _ _) _ _ _); ((refine za_alloc D9 ?hf ?_); (case hf => rfl); (clear D9; intro a9 h9 D9)))
  with_reducible refine zb ?_
  with_reducible refine x_pure ?_
  with_reducible refine wpAny_pure ?_
  with_reducible refine wpAny_bind ?_
  with_reducible refine zf_cons ?_
  with_reducible refine wpAny_bind ?_
  with_reducible refine wpAny_bind ?_
  dsimp only [List.lookup_nil, List.nil_append, List.append_nil, List.cons_append, List.map_nil, List.map_cons, List.filter_nil]
  conv => arg 3; whnf
  with_reducible refine x_pure ?_
  ((with_reducible refine zi_t ?hc ?_); (case hc => first | decide | exact (rfl : true = true)))
  conv => arg 3; whnf
  with_reducible refine x_pure ?_
  with_reducible refine zf_nil ?_
  with_reducible refine wpAny_bind ?_
  ((with_reducible show wpAny _ _ (typeOf (Value.type "object")) _ _ _); refine typeOf_obj ?_)
  with_reducible refine wpAny_bind ?_
  conv => arg 3; whnf
  with_reducible refine x_pure ?_
  ((with_reducible refine zi_t ?hc ?_); (case hc => first | decide | exact (rfl : true = true)))
  with_reducible refine wpAny_bind ?_
  with_reducible refine zf_cons ?_
  with_reducible refine wpAny_bind ?_
  with_reducible refine wpAny_bind ?_
  ((with_reducible show wpAny _ _ (typeOf (Value.type "object")) _ _ _); refine typeOf_obj ?_)
  with_reducible refine wpAny_bind ?_
  conv => arg 3; whnf
  with_reducible refine x_pure ?_
  ((with_reducible refine zi_t ?hc ?_); (case hc => first | decide | exact (rfl : true = true)))
  with_reducible refine wpAny_pure ?_
  with_reducible refine zf_nil ?_
  with_reducible refine wpAny_bind ?_
  conv => arg 3; whnf
  ((with_reducible show wpAny _ _ (.fresh _) _ _ _); with_reducible refine za_fresh ?_)
  with_reducible refine zb ?_
  with_reducible refine x_pure ?_
  with_reducible refine wpAny_pure ?_
  ((with_reducible refine zi_f ?hc ?_); (case hc => first | decide | exact Bool.false_ne_true))
  with_reducible refine wpAny_bind ?_
  with_reducible refine wpAny_pure ?_
  with_reducible refine wpAny_holding ?_
  with_reducible refine wpAny_bind ?_
  conv => arg 3; whnf
  ((with_reducible show wpAny _ _ (.fresh _) _ _ _); with_reducible refine za_fresh ?_)
  with_reducible refine zb ?_
  with_reducible refine zb ?_
  with_reducible refine x_pure ?_
  with_reducible refine wpAny_pure ?_
  refine ca ?_
  rw [show (Value.builtin (toString "type" ++ toString "." ++ toString (Str.ofString "__getattribute__").toString)) = .builtin "type.__getattribute__" from by kernel_rfl]
  refine prep1 (hA.deeper _) (Lg.k2 kin D9 (by simp)) fun a9 h9 t9 kp e9 n9 => ?_
  replace D9 := D9.one kp e9 n9
  clear kp e9 n9
  conv => arg 3; whnf
  with_reducible refine x_pure ?_
  with_reducible refine wpAny_bind ?_
  dsimp only [List.lookup_nil, List.nil_append, List.append_nil, List.cons_append, List.map_nil, List.map_cons, List.filter_nil]
  conv => arg 3; whnf
  refine ca ?_
  refine prep2 (hA.deeper _) (Lg.k2 kin D9 (by simp)) (D9.at 0 rfl) fun a9 h9 t9 kp e9 n9 => ?_
  replace D9 := D9.one kp e9 n9
  clear kp e9 n9
  conv => arg 3; whnf
  with_reducible refine x_pure ?_
  with_reducible refine wpAny_bind ?_
  have hns1 : a9 ≠ sysModules := D9.ne_old 0 rfl (kin sysModules _ rfl)
  unfold notTheModulesDict
  refine zi_f (by simpa using hns1) ?_
  with_reducible refine wpAny_pure ?_
  with_reducible refine wpAny_bind ?_
  conv => arg 3; whnf
  ((with_reducible show wpAny _ _ (.load _ _ _) _ _ _); ((with_reducible refine' za_load ?ho ?_); (case ho => exact Lg.at D9 _ (ixr 0 rfl))))
  with_reducible refine zb ?_
  with_reducible refine zb ?_
  with_reducible refine x_pure ?_
  with_reducible refine wpAny_pure ?_
  conv => arg 3; whnf
  with_reducible refine x_pure ?_
  ((with_reducible refine zi_f ?hc ?_); (case hc => first | decide | exact Bool.false_ne_true))
  with_reducible refine wpAny_holding ?_
  ((with_reducible refine zi_f ?hc ?_); (case hc => first | decide | exact Bool.false_ne_true))
  with_reducible refine wpAny_bind ?_
  with_reducible refine wpAny_pure ?_
  ((with_reducible refine zi_f ?hc ?_); (case hc => first | decide | exact Bool.false_ne_true))
  with_reducible refine wpAny_bind ?_
  with_reducible refine wpAny_pure ?_
  with_reducible refine wpAny_bind ?_
  dsimp only [List.lookup_nil, List.nil_append, List.append_nil, List.cons_append, List.map_nil, List.map_cons, List.filter_nil]
  unfold classCode
  unfold codeAt
  ((with_reducible refine zi_f ?hc ?_); (case hc => first | decide | exact Bool.false_ne_true))
  with_reducible refine wpAny_bind ?_
  ((with_reducible show wpAny _ _ (fieldsOf (Value.ref _)) _ _ _); (refine' wpAny_fieldsOf ?ho ?hd ?_); (case ho => exact Lg.old D9 (kin _ _ rfl) rfl); (case hd => rfl))
  dsimp only [List.lookup_nil, List.nil_append, List.append_nil, List.cons_append, List.map_nil, List.map_cons, List.filter_nil]
  generalize e11 : Array.getD _ 11 Value.none = v11
  change Value.ref _ = v11 at e11
  subst e11
  with_reducible refine wpAny_bind ?_
  ((with_reducible show wpAny _ _ (fieldsOf (Value.ref _)) _ _ _); (refine' wpAny_fieldsOf ?ho ?hd ?_); (case ho => exact Lg.old D9 (kin _ _ rfl) rfl); (case hd => rfl))
  generalize e1 : codeAmong _ _ = v1
  change Option.none = v1 at e1
  subst e1
  generalize e2 : Array.getD _ 18 Value.none = v2
  change Value.str _ _ = v2 at e2
  subst e2
  generalize e3 : Array.getD _ 7 Value.none = v3
  change Value.int _ _ = v3 at e3
  subst e3
  generalize e4 : Array.getD _ 9 Value.none = v4
  change Value.bool _ = v4 at e4
  subst e4
  generalize e5 : Array.getD _ 10 Value.none = v5
  change Value.int _ _ = v5 at e5
  subst e5
  with_reducible refine wpAny_bind ?_
  unfold newCode
  generalize hfr : Scope.freeNames _ = fr
  obtain rfl : fr = [Str.ofString "mycmp"] := by
    rw [← hfr]
    simp [Scope.freeNames, List.filter_cons]
  clear hfr
  with_reducible refine wpAny_bind ?_
  dsimp only [List.lookup_nil, List.nil_append, List.append_nil, List.cons_append, List.map_nil, List.map_cons, List.filter_nil]
  conv => arg 3; whnf
  ((with_reducible show wpAny _ _ (.fresh _) _ _ _); with_reducible refine za_fresh ?_)
  with_reducible refine zb ?_
  with_reducible refine x_pure ?_
  with_reducible refine wpAny_pure ?_
  with_reducible refine wpAny_bind ?_
  conv => arg 3; whnf
  ((with_reducible show wpAny _ _ (.fresh _) _ _ _); with_reducible refine za_fresh ?_)
  with_reducible refine zb ?_
  with_reducible refine x_pure ?_
  with_reducible refine wpAny_pure ?_
  with_reducible refine wpAny_bind ?_
  conv => arg 3; whnf
  ((with_reducible show wpAny _ _ (.fresh _) _ _ _); with_reducible refine za_fresh ?_)
  with_reducible refine zb ?_
  with_reducible refine x_pure ?_
  with_reducible refine wpAny_pure ?_
  with_reducible refine wpAny_bind ?_
  conv => arg 3; whnf
  ((with_reducible show wpAny _ _ (.fresh _) _ _ _); with_reducible refine za_fresh ?_)
  with_reducible refine zb ?_
  with_reducible refine zb ?_
  with_reducible refine x_pure ?_
  with_reducible refine wpAny_pure ?_
  conv => arg 3; whnf
  with_reducible refine x_pure ?_
  with_reducible refine wpAny_bind ?_
  conv => arg 3; whnf
  ((with_reducible show wpAny _ _ (.alloc _ _) _ _ _); ((refine za_alloc D9 ?hf ?_); (case hf => rfl); (clear D9; intro a9 h9 D9)))
  with_reducible refine zb ?_
  with_reducible refine x_pure ?_
  with_reducible refine wpAny_pure ?_
  with_reducible refine wpAny_bind ?_
  conv => arg 3; whnf
  ((with_reducible show wpAny _ _ (.alloc _ _) _ _ _); ((refine za_alloc D9 ?hf ?_); (case hf => rfl); (clear D9; intro a9 h9 D9)))
  with_reducible refine x_pure ?_
  with_reducible refine wpAny_bind ?_
  with_reducible refine wpAny_pure ?_
  with_reducible refine wpAny_bind ?_
  with_reducible refine wpAny_pure ?_
  with_reducible refine wpAny_bind ?_
  with_reducible refine wpAny_pure ?_
  with_reducible refine wpAny_bind ?_
  conv => arg 3; whnf
  ((with_reducible show wpAny _ _ (.fresh _) _ _ _); with_reducible refine za_fresh ?_)
  with_reducible refine x_pure ?_
  with_reducible refine wpAny_bind ?_
  conv => arg 3; whnf
  ((with_reducible show wpAny _ _ (.fresh _) _ _ _); with_reducible refine za_fresh ?_)
  with_reducible refine zb ?_
  with_reducible refine x_pure ?_
  with_reducible refine wpAny_pure ?_
  conv => arg 3; whnf
  ((with_reducible show wpAny _ _ (.alloc _ _) _ _ _); ((refine za_alloc D9 ?hf ?_); (case hf => rfl); (clear D9; intro a9 h9 D9)))
  with_reducible refine zb ?_
  with_reducible refine x_pure ?_
  with_reducible refine wpAny_pure ?_
  with_reducible refine wpAny_bind ?_
  conv => arg 3; whnf
  ((with_reducible show wpAny _ _ (.load _ _ _) _ _ _); ((with_reducible refine' za_load ?ho ?_); (case ho => exact Lg.old D9 (kin _ _ rfl) rfl)))
  with_reducible refine zb ?_
  with_reducible refine x_pure ?_
  conv => arg 3; whnf
  ((with_reducible show wpAny _ _ (.update _ _ _ _) _ _ _); ((refine' za_change D9 (kin 40 _ rfl) rfl ?hf ?_); (case hf => rfl); (clear D9; intro h9 D9)))
  with_reducible refine x_pure ?_
  with_reducible refine wpAny_bind ?_
  ((with_reducible show wpAny _ _ (fieldsOf (Value.ref _)) _ _ _); (refine' wpAny_fieldsOf ?ho ?hd ?_); (case ho => exact Lg.atC D9 _ (ixr 0 rfl)); (case hd => rfl))
  conv => arg 3; whnf
  with_reducible refine x_pure ?_
  with_reducible refine wpAny_bind ?_
  conv => arg 3; whnf
  ((with_reducible show wpAny _ _ (.load _ _ _) _ _ _); ((with_reducible refine' za_load ?ho ?_); (case ho => exact Lg.old D9 (kin _ _ rfl) rfl)))
  with_reducible refine zb ?_
  with_reducible refine zb ?_
  with_reducible refine x_pure ?_
  dsimp only [List.lookup_nil, List.nil_append, List.append_nil, List.cons_append, List.map_nil, List.map_cons, List.filter_nil]
  conv => arg 3; whnf
  with_reducible refine x_pure ?_
  ((with_reducible refine zi_f ?hc ?_); (case hc => first | decide | exact Bool.false_ne_true))
  with_reducible refine wpAny_bind ?_
  conv => arg 3; whnf
  ((with_reducible show wpAny _ _ (.load _ _ _) _ _ _); ((with_reducible refine' za_load ?ho ?_); (case ho => exact Lg.old D9 (kin _ _ rfl) rfl)))
  with_reducible refine x_pure ?_
  ((with_reducible refine zi_t ?hc ?_); (case hc => first | decide | exact (rfl : true = true)))
  with_reducible refine wpAny_pure ?_
  with_reducible refine wpAny_bind ?_
  conv => arg 3; whnf
  ((with_reducible show wpAny _ _ (.load _ _ _) _ _ _); ((with_reducible refine' za_load ?ho ?_); (case ho => exact Lg.old D9 (kin _ _ rfl) rfl)))
  with_reducible refine zb ?_
  with_reducible refine zb ?_
  with_reducible refine x_pure ?_
  conv => arg 3; whnf
  with_reducible refine x_pure ?_
  dsimp only [List.lookup_nil, List.nil_append, List.append_nil, List.cons_append, List.map_nil, List.map_cons, List.filter_nil]
  conv => arg 3; whnf
  ((with_reducible show wpAny _ _ (.alloc _ _) _ _ _); ((refine za_alloc D9 ?hf ?_); (case hf => rfl); (clear D9; intro a9 h9 D9)))
  with_reducible refine x_pure ?_
  with_reducible refine wpAny_bind ?_
  conv => arg 3; whnf
  with_reducible refine x_pure ?_
  with_reducible refine wpAny_holding ?_
  with_reducible refine wpAny_bind ?_
  simp only [List.getElem_toArray, List.getElem_cons_succ, List.getElem_cons_zero] at D9 ⊢
  refine wpAny_enterFrame (noLimitL kin D9 rfl) (hA.deeper _).room ?_
  with_reducible refine wpAny_bind ?_
  with_reducible refine wpAny_onRaise ?_
  with_reducible refine wpAny_bind ?_
  conv => arg 3; whnf
  ((with_reducible show wpAny _ _ (.load _ _ _) _ _ _); ((with_reducible refine' za_load ?ho ?_); (case ho => exact Lg.at D9 _ (ixr 4 rfl))))
  with_reducible refine zb ?_
  with_reducible refine zb ?_
  with_reducible refine x_pure ?_
  ((with_reducible refine zi_t ?hc ?_); (case hc => first | decide | exact (rfl : true = true)))
  ((with_reducible show wpAny _ _ (nsGet _ _) _ _ _); ((refine' za_nsGet D9 _ (ixr 4 rfl) ?hk ?hr ?_); (case hk => rfl); (case hr => exact (rfl : _ = Option.none))))
  ((with_reducible show wpAny _ _ (loadGlobal _ _) _ _ _); unfold loadGlobal)
  with_reducible refine wpAny_bind ?_
  ((with_reducible show wpAny _ _ (nsGet _ _) _ _ _); (show wpAny _ _ (nsGet 3 _) _ _ _); refine Looks.here (looks_nsIn (Lg.k2 kin D9 (by simp)) (by rfl)) ?_)
  with_reducible refine wpAny_pure ?_
  with_reducible refine wpAny_bind ?_
  dsimp only [List.lookup_nil, List.nil_append, List.append_nil, List.cons_append, List.map_nil, List.map_cons, List.filter_nil]
  conv => arg 3; whnf
  ((with_reducible show wpAny _ _ (.load _ _ _) _ _ _); ((with_reducible refine' za_load ?ho ?_); (case ho => exact Lg.at D9 _ (ixr 4 rfl))))
  with_reducible refine zb ?_
  with_reducible refine x_pure ?_
  ((with_reducible refine zi_t ?hc ?_); (case hc => first | decide | exact (rfl : true = true)))
  ((with_reducible show wpAny _ _ (nsSet _ _ _) _ _ _); ((refine' za_nsAdd D9 _ (ixr 4 rfl) ?hk ?_); (case hk => rfl); (clear D9; intro _ _ h9 t9 D9; simp only [List.set_cons_zero, List.set_cons_succ, List.cons_append, List.nil_append] at D9)))
  with_reducible refine wpAny_bind ?_
  conv => arg 3; whnf
  ((with_reducible show wpAny _ _ (.fresh _) _ _ _); with_reducible refine za_fresh ?_)
  with_reducible refine zb ?_
  with_reducible refine x_pure ?_
  with_reducible refine wpAny_pure ?_
  with_reducible refine wpAny_bind ?_
  conv => arg 3; whnf
  ((with_reducible show wpAny _ _ (.load _ _ _) _ _ _); ((with_reducible refine' za_load ?ho ?_); (case ho => exact Lg.at D9 _ (ixr 4 rfl))))
  with_reducible refine zb ?_
  with_reducible refine x_pure ?_
  ((with_reducible refine zi_t ?hc ?_); (case hc => first | decide | exact (rfl : true = true)))
  ((with_reducible show wpAny _ _ (nsSet _ _ _) _ _ _); ((refine' za_nsAdd D9 _ (ixr 4 rfl) ?hk ?_); (case hk => rfl); (clear D9; intro _ _ h9 t9 D9; simp only [List.set_cons_zero, List.set_cons_succ, List.cons_append, List.nil_append] at D9)))
  with_reducible refine wpAny_bind ?_
  conv => arg 3; whnf
  ((with_reducible show wpAny _ _ (.fresh _) _ _ _); with_reducible refine za_fresh ?_)
  with_reducible refine zb ?_
  with_reducible refine x_pure ?_
  with_reducible refine wpAny_pure ?_
  with_reducible refine wpAny_bind ?_
  conv => arg 3; whnf
  ((with_reducible show wpAny _ _ (.load _ _ _) _ _ _); ((with_reducible refine' za_load ?ho ?_); (case ho => exact Lg.at D9 _ (ixr 4 rfl))))
  with_reducible refine zb ?_
  with_reducible refine x_pure ?_
  ((with_reducible refine zi_t ?hc ?_); (case hc => first | decide | exact (rfl : true = true)))
  ((with_reducible show wpAny _ _ (nsSet _ _ _) _ _ _); ((refine' za_nsAdd D9 _ (ixr 4 rfl) ?hk ?_); (case hk => rfl); (clear D9; intro _ _ h9 t9 D9; simp only [List.set_cons_zero, List.set_cons_succ, List.cons_append, List.nil_append] at D9)))
  with_reducible refine wpAny_pure ?_
  with_reducible refine wpAny_bind ?_
  refine gen_Q fun Qc hc9 => ?_
  refine za_body fun A2 => ?_
  unfold blockStart
  ((with_reducible refine zi_f ?hc ?_); (case hc => first | decide | exact Bool.false_ne_true))
  ((with_reducible refine zi_f ?hc ?_); (case hc => first | decide | exact Bool.false_ne_true))
  conv => arg 3; whnf
  with_reducible refine x_pure ?_
  with_reducible refine wpAny_execs_cons ?_
  ((with_reducible refine wpAny_Assign_Name ?_ ?e1); (case e1 => exact rfl))
  with_reducible refine Calls.Constant_str ?_
  dsimp only [List.lookup_nil, List.nil_append, List.append_nil, List.cons_append, List.map_nil, List.map_cons, List.filter_nil]
  conv => arg 3; whnf
  ((with_reducible show wpAny _ _ (.load _ _ _) _ _ _); ((with_reducible refine' za_load ?ho ?_); (case ho => exact Lg.at D9 _ (ixr 4 rfl))))
  with_reducible refine zb ?_
  with_reducible refine x_pure ?_
  ((with_reducible refine zi_t ?hc ?_); (case hc => first | decide | exact (rfl : true = true)))
  ((with_reducible show wpAny _ _ (nsSet _ _ _) _ _ _); ((refine' za_nsHead D9 _ (ixr 4 rfl) ?hk ?_); (case hk => rfl); (clear D9; intro h9 t9 D9; simp only [List.set_cons_zero, List.set_cons_succ, List.cons_append, List.nil_append] at D9)))
  with_reducible refine wpAny_execs_cons ?_
  ((with_reducible refine wpAny_Assign_Name ?_ ?e1); (case e1 => exact rfl))
  with_reducible refine wpAny_List ?_
  dsimp only [List.lookup_nil, List.nil_append, List.append_nil, List.cons_append, List.map_nil, List.map_cons, List.filter_nil]
  conv => arg 3; whnf
  ((with_reducible show wpAny _ _ (.fresh _) _ _ _); with_reducible refine za_fresh ?_)
  with_reducible refine zb ?_
  with_reducible refine zb ?_
  with_reducible refine x_pure ?_
  with_reducible refine wpAny_pure ?_
  ((with_reducible refine zi_f ?hc ?_); (case hc => first | decide | exact Bool.false_ne_true))
  with_reducible refine wpAny_bind ?_
  with_reducible refine wpAny_pure ?_
  with_reducible refine wpAny_bind ?_
  with_reducible refine wpAny_holding ?_
  conv => arg 3; whnf
  with_reducible refine x_pure ?_
  with_reducible refine wpAny_pure ?_
  dsimp only [List.lookup_nil, List.nil_append, List.append_nil, List.cons_append, List.map_nil, List.map_cons, List.filter_nil]
  refine ⟨by ((show _ ≤ 16777216; simp; done)), ?_⟩
  replace D9 := D9.alloc (o := { cls := .type "list", data := .seq #[.str (Str.ofString "obj") t9] }) rfl
  generalize h9.objs.size = aS at D9 ⊢
  generalize Heap.push h9 _ = hS at D9 ⊢
  conv => arg 3; whnf
  ((with_reducible show wpAny _ _ (.load _ _ _) _ _ _); ((with_reducible refine' za_load ?ho ?_); (case ho => exact Lg.at D9 _ (ixr 5 rfl))))
  with_reducible refine zb ?_
  with_reducible refine x_pure ?_
  ((with_reducible refine zi_t ?hc ?_); (case hc => first | decide | exact (rfl : true = true)))
  ((with_reducible show wpAny _ _ (nsSet _ _ _) _ _ _); ((refine' za_nsAdd D9 _ (ixr 5 rfl) ?hk ?_); (case hk => rfl); (clear D9; intro _ _ h9 t9 D9; simp only [List.set_cons_zero, List.set_cons_succ, List.cons_append, List.nil_append] at D9)))
  with_reducible refine wpAny_execs_cons ?_
  rw [exec_def]
  with_reducible refine wpAny_bind ?_
  with_reducible refine wpAny_standAt ?_
  with_reducible refine wpAny_bind ?_
  with_reducible refine wpAny_holding ?_
  with_reducible refine wpAny_bind ?_
  conv => arg 3; whnf
  with_reducible refine x_pure ?_
  with_reducible refine wpAny_bind ?_
  with_reducible refine wpAny_holding ?_
  conv => arg 3; whnf
  with_reducible refine x_pure ?_
  with_reducible refine wpAny_holding ?_
  with_reducible refine wpAny_bind ?_
  conv => arg 3; whnf
  with_reducible refine x_pure ?_
  generalize hq : qualnameIn _ _ _ = qf
  clear hq
  unfold makeFunction
  ((with_reducible refine zi_t ?hc ?_); (case hc => first | decide | exact (rfl : true = true)))
  with_reducible refine wpAny_bind ?_
  with_reducible refine wpAny_pure ?_
  ((with_reducible refine zi_t ?hc ?_); (case hc => first | decide | exact (rfl : true = true)))
  with_reducible refine wpAny_bind ?_
  with_reducible refine wpAny_pure ?_
  ((with_reducible refine zi_t ?hc ?_); (case hc => first | decide | exact (rfl : true = true)))
  with_reducible refine wpAny_bind ?_
  with_reducible refine wpAny_pure ?_
  with_reducible refine wpAny_bind ?_
  dsimp only [List.lookup_nil, List.nil_append, List.append_nil, List.cons_append, List.map_nil, List.map_cons, List.filter_nil]
  conv => arg 3; whnf
  with_reducible refine x_pure ?_
  ((with_reducible refine zi_t ?hc ?_); (case hc => first | decide | exact (rfl : true = true)))
  with_reducible refine wpAny_bind ?_
  with_reducible refine wpAny_pure ?_
  with_reducible refine wpAny_bind ?_
  unfold functionCode
  unfold codeAt
  ((with_reducible refine zi_f ?hc ?_); (case hc => first | decide | exact Bool.false_ne_true))
  with_reducible refine wpAny_bind ?_
  ((with_reducible show wpAny _ _ (fieldsOf (Value.ref _)) _ _ _); (refine' wpAny_fieldsOf ?ho ?hd ?_); (case ho => exact Lg.at D9 _ (ixr 2 rfl)); (case hd => rfl))
  generalize e11 : Array.getD _ 11 Value.none = v11
  change Value.ref _ = v11 at e11
  subst e11
  with_reducible refine wpAny_bind ?_
  ((with_reducible show wpAny _ _ (fieldsOf (Value.ref _)) _ _ _); (refine' wpAny_fieldsOf ?ho ?hd ?_); (case ho => exact Lg.at D9 _ (ixr 3 rfl)); (case hd => rfl))
  generalize e1 : codeAmong _ _ = v1
  change Option.none = v1 at e1
  subst e1
  generalize e2 : Array.getD _ 18 Value.none = v2
  change Value.str _ _ = v2 at e2
  subst e2
  generalize e3 : Array.getD _ 7 Value.none = v3
  change Value.int _ _ = v3 at e3
  subst e3
  generalize e4 : Array.getD _ 9 Value.none = v4
  change Value.bool _ = v4 at e4
  subst e4
  generalize e5 : Array.getD _ 10 Value.none = v5
  change Value.int _ _ = v5 at e5
  subst e5
  with_reducible refine wpAny_bind ?_
  unfold newCode
  generalize hfr : Scope.freeNames _ = fr
  obtain rfl : fr = [] := by
    rw [← hfr]
    simp [Scope.freeNames]
  clear hfr
  with_reducible refine wpAny_bind ?_
  conv => arg 3; whnf
  ((with_reducible show wpAny _ _ (.fresh _) _ _ _); with_reducible refine za_fresh ?_)
  with_reducible refine zb ?_
  with_reducible refine x_pure ?_
  with_reducible refine wpAny_pure ?_
  with_reducible refine wpAny_bind ?_
  conv => arg 3; whnf
  ((with_reducible show wpAny _ _ (.fresh _) _ _ _); with_reducible refine za_fresh ?_)
  with_reducible refine zb ?_
  with_reducible refine x_pure ?_
  with_reducible refine wpAny_pure ?_
  with_reducible refine wpAny_bind ?_
  conv => arg 3; whnf
  ((with_reducible show wpAny _ _ (.fresh _) _ _ _); with_reducible refine za_fresh ?_)
  with_reducible refine zb ?_
  with_reducible refine x_pure ?_
  with_reducible refine wpAny_pure ?_
  with_reducible refine wpAny_bind ?_
  conv => arg 3; whnf
  with_reducible refine x_pure ?_
  with_reducible refine wpAny_bind ?_
  conv => arg 3; whnf
  ((with_reducible show wpAny _ _ (.alloc _ _) _ _ _); ((refine za_alloc D9 ?hf ?_); (case hf => rfl); (clear D9; intro a9 h9 D9)))
  with_reducible refine zb ?_
  with_reducible refine x_pure ?_
  with_reducible refine wpAny_pure ?_
  with_reducible refine wpAny_bind ?_
  conv => arg 3; whnf
  ((with_reducible show wpAny _ _ (.alloc _ _) _ _ _); ((refine za_alloc D9 ?hf ?_); (case hf => rfl); (clear D9; intro a9 h9 D9)))
  with_reducible refine x_pure ?_
  conv => arg 3; whnf
  ((with_reducible show wpAny _ _ (.fresh _) _ _ _); with_reducible refine za_fresh ?_)
  with_reducible refine zb ?_
  with_reducible refine zb ?_
  with_reducible refine zb ?_
  with_reducible refine x_pure ?_
  with_reducible refine wpAny_pure ?_
  conv => arg 3; whnf
  ((with_reducible show wpAny _ _ (.fresh _) _ _ _); with_reducible refine za_fresh ?_)
  with_reducible refine zb ?_
  with_reducible refine zb ?_
  with_reducible refine x_pure ?_
  with_reducible refine wpAny_pure ?_
  conv => arg 3; whnf
  with_reducible refine x_pure ?_
  with_reducible refine wpAny_bind ?_
  conv => arg 3; whnf
  ((with_reducible show wpAny _ _ (.alloc _ _) _ _ _); ((refine za_alloc D9 ?hf ?_); (case hf => rfl); (clear D9; intro a9 h9 D9)))
  with_reducible refine zb ?_
  with_reducible refine x_pure ?_
  with_reducible refine wpAny_pure ?_
  conv => arg 3; whnf
  ((with_reducible show wpAny _ _ (.alloc _ _) _ _ _); ((refine za_alloc D9 ?hf ?_); (case hf => rfl); (clear D9; intro a9 h9 D9)))
  with_reducible refine zb ?_
  with_reducible refine zb ?_
  with_reducible refine x_pure ?_
  with_reducible refine wpAny_pure ?_
  with_reducible refine wpAny_bind ?_
  conv => arg 3; whnf
  ((with_reducible show wpAny _ _ (.alloc _ _) _ _ _); ((refine za_alloc D9 ?hf ?_); (case hf => rfl); (clear D9; intro a9 h9 D9)))
  with_reducible refine x_pure ?_
  with_reducible refine wpAny_bind ?_
  with_reducible refine wpAny_pure ?_
  with_reducible refine wpAny_bind ?_
  conv => arg 3; whnf
  ((with_reducible show wpAny _ _ (.fresh _) _ _ _); with_reducible refine za_fresh ?_)
  with_reducible refine x_pure ?_
  with_reducible refine wpAny_bind ?_
  conv => arg 3; whnf
  ((with_reducible show wpAny _ _ (.fresh _) _ _ _); with_reducible refine za_fresh ?_)
  with_reducible refine zb ?_
  with_reducible refine x_pure ?_
  with_reducible refine wpAny_pure ?_
  conv => arg 3; whnf
  ((with_reducible show wpAny _ _ (.alloc _ _) _ _ _); ((refine za_alloc D9 ?hf ?_); (case hf => rfl); (clear D9; intro a9 h9 D9)))
  with_reducible refine zb ?_
  with_reducible refine x_pure ?_
  with_reducible refine wpAny_pure ?_
  with_reducible refine wpAny_bind ?_
  ((with_reducible show wpAny _ _ (updateFieldsOfTheText _ _) _ _ _); ((refine' za_tab D9 _ (ixr 9 rfl) ?hk ?_); (case hk => rfl); (clear D9; intro h9 D9; simp only [List.set_cons_zero, List.set_cons_succ, List.cons_append, List.nil_append] at D9)))
  with_reducible refine wpAny_bind ?_
  ((with_reducible show wpAny _ _ (fieldsOf (Value.ref _)) _ _ _); (refine' wpAny_fieldsOf ?ho ?hd ?_); (case ho => exact Lg.at D9 _ (ixr 9 rfl)); (case hd => rfl))
  conv => arg 3; whnf
  with_reducible refine x_pure ?_
  with_reducible refine wpAny_bind ?_
  conv => arg 3; whnf
  ((with_reducible show wpAny _ _ (.load _ _ _) _ _ _); ((with_reducible refine' za_load ?ho ?_); (case ho => exact Lg.old D9 (kin _ _ rfl) rfl)))
  with_reducible refine zb ?_
  with_reducible refine zb ?_
  with_reducible refine x_pure ?_
  dsimp only [List.lookup_nil, List.nil_append, List.append_nil, List.cons_append, List.map_nil, List.map_cons, List.filter_nil]
  conv => arg 3; whnf
  with_reducible refine x_pure ?_
  ((with_reducible refine zi_f ?hc ?_); (case hc => first | decide | exact Bool.false_ne_true))
  with_reducible refine wpAny_bind ?_
  conv => arg 3; whnf
  ((with_reducible show wpAny _ _ (.load _ _ _) _ _ _); ((with_reducible refine' za_load ?ho ?_); (case ho => exact Lg.old D9 (kin _ _ rfl) rfl)))
  with_reducible refine x_pure ?_
  ((with_reducible refine zi_t ?hc ?_); (case hc => first | decide | exact (rfl : true = true)))
  with_reducible refine wpAny_pure ?_
  with_reducible refine wpAny_bind ?_
  ((with_reducible show wpAny _ _ (nsGet _ _) _ _ _); (show wpAny _ _ (nsGet 3 _) _ _ _); refine Looks.here (looks_nsIn (Lg.k2 kin D9 (by simp)) (by rfl)) ?_)
  with_reducible refine wpAny_bind ?_
  dsimp only [List.lookup_nil, List.nil_append, List.append_nil, List.cons_append, List.map_nil, List.map_cons, List.filter_nil]
  conv => arg 3; whnf
  with_reducible refine x_pure ?_
  conv => arg 3; whnf
  ((with_reducible show wpAny _ _ (.alloc _ _) _ _ _); ((refine za_alloc D9 ?hf ?_); (case hf => rfl); (clear D9; intro a9 h9 D9)))
  with_reducible refine zb ?_
  with_reducible refine x_pure ?_
  with_reducible refine wpAny_pure ?_
  with_reducible refine wpAny_bind ?_
  with_reducible refine wpAny_standAt ?_
  with_reducible refine wpAny_bind ?_
  conv => arg 3; whnf
  with_reducible refine x_point ?_
  with_reducible refine zb ?_
  conv => arg 3; whnf
  with_reducible refine x_pure ?_
  with_reducible refine wpAny_bind ?_
  conv => arg 3; whnf
  ((with_reducible show wpAny _ _ (.load _ _ _) _ _ _); ((with_reducible refine' za_load ?ho ?_); (case ho => exact Lg.at D9 _ (ixr 12 rfl))))
  with_reducible refine zb ?_
  with_reducible refine x_pure ?_
  ((with_reducible refine zi_t ?hc ?_); (case hc => first | decide | exact (rfl : true = true)))
  ((with_reducible show wpAny _ _ (nsSet _ _ _) _ _ _); ((refine' za_nsAdd D9 _ (ixr 12 rfl) ?hk ?_); (case hk => rfl); (clear D9; intro _ _ h9 t9 D9; simp only [List.set_cons_zero, List.set_cons_succ, List.cons_append, List.nil_append] at D9)))
  with_reducible refine wpAny_point ?_
  with_reducible refine wpAny_pure ?_
  with_reducible refine wpAny_execs_cons ?_
  try simp only [List.getElem_toArray, List.getElem_cons_succ, List.getElem_cons_zero] at D9 ⊢
  replace D9 := D9.pick [12, 10, 9, 0, 1, 5, 7, 14, 15, 16] (by decide)
  simp only [pk_cons, pk_nil, List.drop_succ_cons, List.drop_zero] at D9
  refine def_step kin D9 (fun _ => rfl) rfl rfl (fun _ => rfl) fun fLt cLt ctL qfL tqL vsL pmL hshL tkL h9 t9 hvL D9 => ?_
  simp only [List.cons_append, List.nil_append] at D9
  with_reducible refine wpAny_execs_cons ?_
  refine def_step kin D9 (fun _ => rfl) rfl rfl (fun _ => rfl) fun fGt cGt _ _ _ _ _ _ _ h9 t9 _ D9 => ?_
  simp only [List.cons_append, List.nil_append] at D9
  with_reducible refine wpAny_execs_cons ?_
  refine def_step kin D9 (fun _ => rfl) rfl rfl (fun _ => rfl) fun fEq cEq _ _ _ _ _ _ _ h9 t9 _ D9 => ?_
  simp only [List.cons_append, List.nil_append] at D9
  with_reducible refine wpAny_execs_cons ?_
  refine def_step kin D9 (fun _ => rfl) rfl rfl (fun _ => rfl) fun fLe cLe _ _ _ _ _ _ _ h9 t9 _ D9 => ?_
  simp only [List.cons_append, List.nil_append] at D9
  with_reducible refine wpAny_execs_cons ?_
  refine def_step kin D9 (fun _ => rfl) rfl rfl (fun _ => rfl) fun fGe cGe _ _ _ _ _ _ _ h9 t9 _ D9 => ?_
  simp only [List.cons_append, List.nil_append] at D9
  with_reducible refine wpAny_execs_cons ?_
  ((with_reducible refine wpAny_Assign_Name ?_ ?e1); (case e1 => exact rfl))
  with_reducible refine Constant_none ?_
  conv => arg 3; whnf
  ((with_reducible show wpAny _ _ (.load _ _ _) _ _ _); ((with_reducible refine' za_load ?ho ?_); (case ho => exact Lg.at D9 _ (ixr 0 rfl))))
  with_reducible refine zb ?_
  with_reducible refine x_pure ?_
  ((with_reducible refine zi_t ?hc ?_); (case hc => first | decide | exact (rfl : true = true)))
  ((with_reducible show wpAny _ _ (nsSet _ _ _) _ _ _); ((refine' za_nsAdd D9 _ (ixr 0 rfl) ?hk ?_); (case hk => rfl); (clear D9; intro _ _ h9 t9 D9; simp only [List.set_cons_zero, List.set_cons_succ, List.cons_append, List.nil_append] at D9)))
  with_reducible refine wpAny_execs_nil ?_
  refine hc9 _ _ ?_
  with_reducible refine wpAny_bind ?_
  with_reducible refine wpAny_onRaise ?_
  with_reducible refine wpAny_bind ?_
  conv => arg 3; whnf
  ((with_reducible show wpAny _ _ (.fresh _) _ _ _); with_reducible refine za_fresh ?_)
  with_reducible refine zb ?_
  with_reducible refine zb ?_
  with_reducible refine x_pure ?_
  with_reducible refine wpAny_pure ?_
  conv => arg 3; whnf
  with_reducible refine x_pure ?_
  with_reducible refine wpAny_bind ?_
  conv => arg 3; whnf
  ((with_reducible show wpAny _ _ (.alloc _ _) _ _ _); ((refine za_alloc D9 ?hf ?_); (case hf => rfl); (clear D9; intro a9 h9 D9)))
  with_reducible refine zb ?_
  with_reducible refine x_pure ?_
  with_reducible refine wpAny_pure ?_
  with_reducible refine wpAny_bind ?_
  conv => arg 3; whnf
  ((with_reducible show wpAny _ _ (.load _ _ _) _ _ _); ((with_reducible refine' za_load ?ho ?_); (case ho => exact Lg.at D9 _ (ixr 1 rfl))))
  with_reducible refine zb ?_
  with_reducible refine x_pure ?_
  ((with_reducible refine zi_t ?hc ?_); (case hc => first | decide | exact (rfl : true = true)))
  ((with_reducible show wpAny _ _ (nsSet _ _ _) _ _ _); ((refine' za_nsAdd D9 _ (ixr 1 rfl) ?hk ?_); (case hk => rfl); (clear D9; intro _ _ h9 t9 D9; simp only [List.set_cons_zero, List.set_cons_succ, List.cons_append, List.nil_append] at D9)))
  with_reducible refine wpAny_pure ?_
  ((with_reducible refine zi_f ?hc ?_); (case hc => first | decide | exact Bool.false_ne_true))
  with_reducible refine wpAny_bind ?_
  try simp only [List.getElem_toArray, List.getElem_cons_succ, List.getElem_cons_zero] at D9 ⊢
  refine typeK (k := k) (qn := Str.ofString "cmp_to_key.<locals>.K") (Lg.k2 kin D9 (by simp)) hns1 rfl (hA.deeper _) (D9.at 18 rfl) (D9.at 1 rfl) (D9.at 17 rfl) (D9.at 14 rfl) (D9.at 12 rfl) (D9.at 10 rfl) (D9.at 8 rfl) (D9.at 6 rfl) (D9.at 4 rfl) (D9.at 0 rfl)
    fun kA nsK mD hE tE kp eK eN eM n1 n2 n3 oK oN oM => ?_
  obtain ⟨n', ya, ka, yb, kb, oN⟩ := oN
  obtain ⟨tm, oM⟩ := oM
  have D8 := D9.add (more := [(kA, _), (nsK, _), (mD, _)]) kp (by
    intro p hp
    simp only [List.mem_cons, List.not_mem_nil, or_false] at hp
    rcases hp with rfl | rfl | rfl
    · exact ⟨oK, eK⟩
    · exact ⟨oN, eN⟩
    · exact ⟨oM, eM⟩) (by simp [n1, n2, n3])
  simp only [List.cons_append, List.nil_append] at D8
  clear oK oN oM kp D9 eK eN eM
  with_reducible refine wpAny_pure ?_
  with_reducible refine wpAny_bind ?_
  conv => arg 3; whnf
  with_reducible refine x_pure ?_
  with_reducible refine wpAny_bind ?_
  with_reducible refine wpAny_standAt ?_
  with_reducible refine wpAny_bind ?_
  unfold bindName
  with_reducible refine wpAny_bind ?_
  with_reducible refine wpAny_holding ?_
  with_reducible refine wpAny_point ?_
  with_reducible refine wpAny_bind ?_
  rw [storeName_local rfl rfl]
  refine za_frAdd D8 23 rfl rfl fun hsF tkF hF tF DF => ?_
  clear D8
  with_reducible refine wpAny_point ?_
  with_reducible refine wpAny_pure ?_
  refine hd9 _ _ ?_
  with_reducible refine wpAny_execs_cons ?_
  have frF := DF.at 23 rfl
  refine wpAny_Return_some (wpAny_Name ?_ rfl)
  refine wpAny_loadName_local (v := .ref kA) rfl rfl ⟨_, #[⟨hsF, .str (Str.ofString "K") tkF, .ref kA⟩], _, frF, rfl, ?_, fun name => rfl⟩ ?_ ?_
  · intro e he
    have : e = ⟨hsF, .str (Str.ofString "K") tkF, .ref kA⟩ := by simpa using he
    exact ⟨_, _, by rw [this]⟩
  · rfl
  refine hf _ _ ?_
  refine hQ kA _ ⟨fun b o e hb => DF.keep b o e fun p hp z => hb (by rw [List.mem_singleton.mp hp] at z; exact z.symm), ⟨_, DF.atC 0 rfl⟩, rfl, rfl, rfl, ?_, ?_⟩
  · intro A' k' s2 x t Q2 E2 st kin2 o2 hq2
    exact kcall_c (k := k') kin2 o2 n1 n2 n3 (DF.ne 0 17 rfl rfl rfl) (DF.ne 1 17 rfl rfl rfl) (DF.ne 2 17 rfl rfl rfl) (DF.stay st 0 rfl) rfl rfl rfl rfl rfl rfl (DF.stay st 1 rfl) rfl rfl rfl rfl (DF.stay st 2 rfl) (DF.stay st 17 rfl) ⟨_, _, _, _, rfl, DF.stay st 18 rfl, rfl, rfl⟩ rfl (fun _ => rfl) rfl rfl rfl rfl hq2
  · intro A' k' s2 a b d1 d2 t1 t2 rs qs Q2 E2 st kin2 o2 ha hb hr hq l1 l2 hQ2
    have q1 := DF.stay st 0 rfl
    have q2 := DF.stay st 1 rfl
    have q3 := DF.stay st 2 rfl
    have q4 := DF.stay st 15 rfl
    have q5 := DF.stay st 16 rfl
    have q6 := DF.stay st 22 rfl
    clear st kin hQ DF frF
    have gets : ∀ (a d : Addr) (t : Tok) (x : List Nat), s2.heap.get? a = some (instO kA d (T x) t) → Gets w s2 a x := by
      intro a d t x ha
      refine ⟨t, fun A3 s3 ex Q3 E3 o3 kin3 keep hq3 => ?_⟩
      have q1 := keep _ _ q1
      have q2 := keep _ _ q2
      have q3 := keep _ _ q3
      have ha := keep _ _ ha
      exact get_m ha rfl q3 rfl (look_up n1 q1 rfl rfl q2 rfl rfl rfl) (look_own n1 q1 rfl rfl q2 rfl) (look_none n1 q1 rfl rfl q2 rfl rfl rfl) fun E4 => mget_c o3.in1 kin3 q1 q3 ha fun t' => ⟨rfl, hq3 t'⟩
    refine key_lt (kA := kA) (o2.mono (by omega : 1 ≤ _)).cl ha rfl (look_own n1 q1 rfl rfl q2 rfl) q4 rfl ?_
    refine (lt_body (k := k'+1) (A := A') kin2 (o2.mono (by omega)) q4 rfl ⟨_, _, _, _, rfl, q5, rfl, hvL⟩ rfl rfl rfl rfl rfl rfl rfl q6 (gets _ _ _ _ ha) (gets _ _ _ _ hb) hr hq l1 l2) _ _ fun v s' to e => ⟨_, e, hQ2 s' to⟩
end PartK5

section PartLW2
theorem isl_keep {h h' : Heap} {a : Addr} {its : Array Value} (H : h.IsList a its) (k : ∀ b o, h.get? b = some o → h'.get? b = some o) : h'.IsList a its := let ⟨o, e, c⟩ := H; ⟨o, k _ _ e, c⟩
theorem IsLists.via {g g' : Vis} (e : ∀ a vs n, g a = some (lstO vs n) → g' a = some (lstO vs n)) : ∀ {vs : List Value} {xss : List (List (List Nat))}, IsLists g vs xss → IsLists g' vs xss
  | [], [], _ => trivial
  | v :: vs, xs :: xss, h => ⟨let ⟨a, ws, m, h1, h2, h3⟩ := h.1; ⟨a, ws, m, h1, e _ _ _ h2, h3⟩, IsLists.via e h.2⟩
  | [], _ :: _, h => h.elim
  | _ :: _, [], h => h.elim
/-- the turns of an int -/
noncomputable def drawOf : Value → List (List Nat)
  | .int n _ => turns 3 n.natAbs
  | _ => []
theorem law_c {w : World} {A : Around} {s : Shared} {k : Nat} {sA : Addr} {vs : List Value} {Q E : Value → Shared → Prop} (kin : (hd.heap_39 w.params).In s.heap) (hA : Ok (k+30) A)
    (hsc : s.heap.IsList sA vs.toArray) (hints : ∀ v ∈ vs, ∃ i t, v = .int i t) (hlen : vs.length ≤ 63)
    (hQ : ∀ s', OldK s.heap s'.heap → s'.gens = s.gens → s'.os = s.os → Q (.bool true) s') :
    wpAny (model P w) A (call (.ref 248) [.ref sA] []) Q E s := by
  have kin2 := K2_in kin
  refine enterL (k := k+30) (binds := [("script", .ref sA)]) kin2 hA rfl rfl rfl rfl rfl (fun _ => rfl) rfl rfl rfl fun L s' Q' E' A' hL hL0 C hq => ?_
  refine binds_cons rfl ?_
  refine st_c C rfl rfl rfl (put_self _ _ _) hL0 fun s1 C1 => ?_
  rw [put_put] at C1
  refine binds_nil ?_
  refine hq _ _ _ C1 ?_
  clear hq C
  have x1 := (Ext.refl (vis s.heap)).put (o := cellO (some (.ref sA))) hL
  have hcl : put (vis s.heap) (L + 1) (cellO (some (.ref sA))) (L + 1) = some (cellO (some (.ref sA))) := put_self _ _ _
  generalize put (vis s.heap) (L + 1) (cellO (some (.ref sA))) = g1 at *
  ((with_reducible refine ex_gen ?_); intro Qn hN hO)
  ((with_reducible refine wpAny_Assign_Name ?_ ?e1); (case e1 => exact rfl))
  refine wpAny_mono (Q := fun v s' => ∃ D ys m g2, v = .ref D ∧ g2 D = some (lstO ys m) ∧ (∀ v ∈ ys, ∃ i t, v = .int i t) ∧ 1 ≤ ys.length ∧ ys.length ≤ 4 ∧ Ext (vis s.heap) g2 ∧ Cx w s L [] g2 [] s') ?or (fun v s2 q => ?rest) (fun _ _ q => q)
  case or =>
    with_reducible refine BoolOp_or ?_
    refine comp_e rfl (by decide) rfl (by decide) (fun _ => rfl) ?_
    (with_reducible refine nm_call ?_)
    (refine nm_b (by walk_at "cx") rfl rfl rfl rfl rfl rfl rfl ?_)
    (refine' ct1 ?e2 ?_); (case e2 => exact rfl)
    (with_reducible refine nm_call ?_)
    (refine nm_b (by walk_at "cx") rfl rfl rfl rfl rfl rfl rfl ?_)
    (refine' cb2 ?e2 ?_); (case e2 => exact rfl)
    with_reducible refine wpAny_Constant_int ?_
    (with_reducible refine nm_call ?_)
    (refine nm_b (by walk_at "cx") rfl rfl rfl rfl rfl rfl rfl ?_)
    (refine' cb1 ?e2 ?_); (case e2 => exact rfl)
    refine nm_c (c := L + 1) (by walk_at "cx") rfl rfl rfl rfl hcl ?_
    refine Calls.call_len_list (isl_keep hsc (Cx.keep (by walk_at "cx"))) (by rw [List.size_toArray]; lia) ?_
    dsimp only
    refine min_c (by walk_at "cx") (hA.deeper _).hd fun k2 g2 s2 x2 C2 => ?_
    have hmin : (if ((vs.toArray.size : Nat) : Int) < 4 then ((vs.toArray.size : Nat) : Int) else 4) = ((min 4 vs.length : Nat) : Int) := by
      simp only [List.size_toArray]
      split <;> lia
    rw [hmin]
    refine range1 (n := min 4 vs.length) C2 fun r t1 t2 t3 s3 hr hr0 C3 => ?_
    refine piter_range C3 (put_self _ _ _) (by lia) fun it o s4 hpos C4 => ?_
    have x4 := (x1.trans x2).trans ((Ext.refl g2).put (o := rngO (min 4 vs.length) t1 t2 t3) hr)
    have hcl4 := (Ext.refl g2).put (o := rngO (min 4 vs.length) t1 t2 t3) hr _ _ (x2 _ _ hcl)
    refine ⟨it, rfl, ⟨o, min 4 vs.length, _, rgPos (min 4 vs.length), _, fun i ys g => Ext (vis s.heap) g ∧ g (L + 1) = some (cellO (some (.ref sA))) ∧ ys.length = i ∧ i ≤ 4 ∧ ∀ v ∈ ys, ∃ i t, v = Value.int i t, iters_range (hA.deeper _).hd, C4, rfl, hpos, ⟨x4, hcl4, rfl, by lia, fun _ h => nomatch h⟩,
      fun _ _ _ _ => trivial, fun j ys g g' e h => ⟨h.1.trans e, e _ _ h.2.1, h.2.2⟩, ?_, fun _ _ _ _ => trivial, ?_, fun _ => rfl, ?_, ?_⟩⟩
    · rintro j ys g ⟨_, _, h, h4, _⟩
      lia
    · intro Q E s₀ L l g pr s C hq
      have e := (C.prot _ (.head _)).1
      rw [hpos] at e
      exact wpAny_pyIter_rangeiter e hq
    · intro C D oL j v ys g1 o1 s7 hj hDn hJ hv C9
      obtain ⟨hxo, hco, hyl, hj4, hys⟩ := hJ
      obtain ⟨tj, rfl⟩ := hv
      have hx9 := hxo.trans (Off.ext _ _ _)
      have hc9 := Off.ext D D g1 _ _ hco
      with_reducible refine wpAny_assign_Name ?_
      (((with_reducible refine st_l (by walk_at "cx") ?e1 ?e2 ?e3 ?_); (case e1 => exact rfl); (case e2 => exact rfl); (case e3 => exact rfl); intro _ _))
      refine tests0 ?_
      with_reducible refine it_t ?_
      (with_reducible refine nm_call ?_)
      (refine nm_b (by walk_at "cx") rfl rfl rfl rfl rfl rfl rfl ?_)
      (refine' cb1 ?e2 ?_); (case e2 => exact rfl)
      refine slice_st (fun _ _ => rfl) ?_
      refine nm_c (c := L + 1) (by walk_at "cx") rfl rfl rfl rfl hc9 ?_
      rw [evalPart_some]
      (refine nm_l (by walk_at "cx") rfl rfl rfl rfl rfl ?_)
      with_reducible refine wpAny_Constant_int ?_
      refine ⟨sA, vs.toArray, some (j : Int), some 4, rfl, .int _ _, .int _ _, by decide, by simp [sizeLine_eq]; lia, isl_keep hsc (Cx.keep (by walk_at "cx")), by walk_at "cx", fun D1 s8 hD1 hD10 C10 => ?_⟩
      refine sum_c C10 (hA.deeper _).hd (put_self _ _ _) (fun v hv => hints v (by simpa using pick_mem hv)) fun r t g3 s9 x9 C11 => ?_
      have xx := ((Ext.refl g1).put (o := lstO (slicePick vs.toArray (some (j : Int)) none (some 4)).toList 0) hD1).trans x9
      refine ⟨_, _, xx, ⟨hxo.trans (Off.mono xx), Off.mono xx _ _ hco, by simp [hyl], by lia, fun v hv => ?_⟩, C11⟩
      rcases List.mem_append.mp hv with hv | hv
      · exact hys v hv
      · rw [List.mem_singleton.mp hv]; exact ⟨_, _, rfl⟩
    · rintro ys g3 ⟨hx3, hc3, hyl, hj4, hys⟩ D g4 m s8 e4 hgD C9
      refine tr_list C9 hgD (by lia) ?_
      clear C4 C3 C2 C1
      cases ys with
      | cons y r => exact ⟨D, _, m, g4, rfl, hgD, hys, by simp, by lia, hx3.trans e4, C9.tok _⟩
      | nil =>
        refine it_f ?_
        with_reducible refine BoolOp_one ?_
        with_reducible refine lst_ ?_
        ((with_reducible refine wpAny_items_cons ?_ ?e1); (case e1 => exact rfl))
        with_reducible refine wpAny_Constant_int ?_
        ((with_reducible refine wpAny_items_cons ?_ ?e1); (case e1 => exact rfl))
        with_reducible refine wpAny_Constant_int ?_
        with_reducible refine wpAny_items_nil ?_
        dsimp only
        refine ⟨by ((show _ ≤ 16777216; simp; done)), by walk_at "cx", fun D2 s9 hD2 hD20 C11 => ?_⟩
        refine ⟨D2, [_, _], 0, _, rfl, put_self _ _ _, ?_, by simp, by simp, (hx3.trans e4).put ?_, by walk_at "cx"⟩
        · intro v hv
          simp only [List.mem_cons, List.not_mem_nil, or_false] at hv
          rcases hv with rfl | rfl <;> exact ⟨_, _, rfl⟩
        · cases q : vis s.heap D2 with
          | none => rfl
          | some o => rw [(hx3.trans e4) _ _ q] at hD2; cases hD2
  case rest =>
    obtain ⟨D, ys, m, g2, rfl, hD, hys, h1, h4, x2, C2⟩ := q
    clear C1 x1 hcl
    (((with_reducible refine st_l (by walk_at "cx") ?e1 ?e2 ?e3 ?_); (case e1 => exact rfl); (case e2 => exact rfl); (case e3 => exact rfl); intro _ _))
    ((with_reducible refine qnx (by assumption) ?_); (try clear hN hO))
    ((with_reducible refine ex_gen ?_); intro Qn hN hO)
    rename_i C3
    have hds : ∀ j (h : j < ys.length), ∃ i t, ys[j] = .int i t := fun j h => hys _ (List.getElem_mem h)
    refine comp_s rfl rfl (by decide) rfl (by decide) (fun _ => rfl) rfl rfl ?_
    (refine nm_l (by walk_at "cx") rfl rfl rfl rfl rfl ?_)
    refine piter_list (by walk_at "cx") hD fun it o s4 hpos C4 => ?_
    refine ⟨it, rfl, ⟨o, ys.length, _, ltPos D, _, fun j zs g => Ext (vis s.heap) g ∧ g D = some (lstO ys m) ∧ IsLists g zs ((ys.take j).map drawOf), iters_list (n := m) (hA.deeper _).hd, C4, rfl, hpos, ⟨x2, hD, trivial⟩,
      fun j zs g h => h.2.1, fun j zs g g' e h => ⟨h.1.trans e, e _ _ h.2.1, h.2.2.mono e⟩, ?_, fun g g' e h => e _ _ h, fun Q E s₀ L l g pr s C hq => self_list C hpos hq, fun _ => rfl, ?_, ?_⟩⟩
    · rintro j zs g ⟨_, _, h⟩
      rw [h.length, List.length_map, List.length_take]; lia
    · intro C CD oL j v zs g1 o1 s7 hj hDn hJ hv C9
      obtain ⟨hxo, hDo, hzs⟩ := hJ
      obtain ⟨n, t, e8⟩ := hds j hj
      have hyj : ys[j]? = some (.int n t) := by rw [List.getElem?_eq_getElem hj, e8]
      rw [hyj] at hv
      obtain rfl := Option.some.inj hv
      with_reducible refine wpAny_assign_Name ?_
      (((with_reducible refine st_l (by walk_at "cx") ?e1 ?e2 ?e3 ?_); (case e1 => exact rfl); (case e2 => exact rfl); (case e3 => exact rfl); intro _ _))
      refine tests0 ?_
      with_reducible refine it_t ?_
      (with_reducible refine nm_call ?_)
      (refine nm_g (by walk_at "cx") rfl rfl rfl rfl rfl ?_)
      (refine' cu1 ?e1 ?e2 ?_); (case e1 => exact rfl); (case e2 => exact rfl)
      (refine nm_l (by walk_at "cx") rfl rfl rfl rfl rfl ?_)
      ((with_reducible refine And.intro ?k1 ?_); (case k1 => exact Cx.k (by walk_at "cx")))
      refine use (by walk_at "cx") (turns_c (k := k) (Cx.k (by walk_at "cx")) ((hA.deeper _).mono (by lia))) fun v g5 s8 e5 q C10 => ?_
      obtain ⟨a, ws, m5, rfl, ha, hga, hws⟩ := q
      refine ⟨_, _, e5, ⟨hxo.trans (Off.mono e5), Off.mono e5 _ _ hDo, ?_⟩, C10⟩
      have hst : (ys.take (j + 1)).map drawOf = (ys.take j).map drawOf ++ [turns 3 n.natAbs] := by
        rw [List.take_succ_eq_append_getElem hj, List.map_append, e8]; rfl
      rw [hst]
      have hne : a ≠ CD := fun z => hDn (z ▸ ha)
      exact (hzs.mono (Off.mono e5)).snoc (Off.some hne hne hga) hws
    · rintro zs g3 ⟨hx3, hD3, hzs⟩ Dr g4 m4 s8 e4 hgD C9
      rw [List.take_length] at hzs
      have xd := hx3.trans e4
      have hz4 := hzs.mono e4
      have D4 : Drawn4 (ys.map drawOf) := by
        have hm : ∀ ts ∈ ys.map drawOf, ∃ n : Int, ts = turns 3 n.natAbs := by
          intro ts hts
          obtain ⟨v, hv, rfl⟩ := List.mem_map.mp hts
          obtain ⟨n, t, rfl⟩ := hys v hv
          exact ⟨n, rfl⟩
        refine ⟨by rw [List.length_map]; exact h4, fun ts hts => ?_, fun ts hts => ?_, fun ts hts => ?_⟩
        · obtain ⟨n, rfl⟩ := hm ts hts; exact turns_len _ _
        · obtain ⟨n, rfl⟩ := hm ts hts; exact turns_ok _ _
        · obtain ⟨n, rfl⟩ := hm ts hts; exact turns_cp _ _
      clear hys hD3 hD hds C3 C4 C2 x2
      generalize ys.map drawOf = ds at *
      have C10 := C9.nrm [("drawn", .ref Dr)] ⟨rfl, trivial⟩
      clear C9 hx3 hzs e4
      ((with_reducible refine qnx (by assumption) ?_); (try clear hN hO))
      ((with_reducible refine ex_gen ?_); intro Qn hN hO)
      ((with_reducible refine wpAny_Assign_Name ?_ ?e1); (case e1 => exact rfl))
      (with_reducible refine nm_call ?_)
      (refine nm_g (by walk_at "cx") rfl rfl rfl rfl rfl ?_)
      (refine' cu1 ?e1 ?e2 ?_); (case e1 => exact rfl); (case e2 => exact rfl)
      (refine nm_l (by walk_at "cx") rfl rfl rfl rfl rfl ?_)
      ((with_reducible refine And.intro ?k1 ?_); (case k1 => exact Cx.k (by walk_at "cx")))
      refine use (by walk_at "cx") (ways_c (k := k) (Cx.k (by walk_at "cx")) ((hA.deeper _).mono (by lia)) (by (rw [Cx.vis (by walk_at "cx")]); exact hgD) (by (rw [Cx.vis (by walk_at "cx")]); exact hz4) D4) fun v g5 s9 e5 q C11 => ?_
      obtain ⟨wa, wv, wm, W, rfl, hwa, hwv, hperm, hsort⟩ := q
      (((with_reducible refine st_l (by walk_at "cx") ?e1 ?e2 ?e3 ?_); (case e1 => exact rfl); (case e2 => exact rfl); (case e3 => exact rfl); intro _ _))
      ((with_reducible refine qnx (by assumption) ?_); (try clear hN hO))
      ((with_reducible refine ex_gen ?_); intro Qn hN hO)
      have F := wf_of D4 hperm hsort
      clear hperm hsort
      rename_i Ce
      have x5 := xd.trans e5
      have hwl := hwv.length
      refine comp_s rfl rfl (by decide) rfl (by decide) (fun _ => rfl) rfl rfl ?_
      (refine nm_l (by walk_at "cx") rfl rfl rfl rfl rfl ?_)
      refine piter_list (by walk_at "cx") hwa fun it o s10 hpos C12 => ?_
      refine ⟨it, rfl, ⟨o, wv.length, _, ltPos wa, _, fun j zs g => Ext g5 g ∧ IsStrs zs ((W.take j).map pth), iters_list (n := wm) (hA.deeper _).hd, C12, rfl, hpos, ⟨Ext.refl _, .nil⟩,
        fun j zs g h => h.1 _ _ hwa, fun j zs g g' e h => ⟨h.1.trans e, h.2⟩, ?_, fun g g' e h => e _ _ h, fun Q E s₀ L l g pr s C hq => self_list C hpos hq, fun _ => rfl, ?_, ?_⟩⟩
      · rintro j zs g ⟨_, h⟩
        have := F.few
        rw [h.length, List.length_map, List.length_take]; lia
      · intro C CD oL j v zs g1 o1 s11 hj hDn hJ hv C13
        obtain ⟨hxo, hzs⟩ := hJ
        have hj' : j < W.length := by lia
        obtain ⟨na, nv, nm, e1, hna, hnv⟩ := hwv.get (i := j) (xs := W[j]) (by simp [hj'])
        rw [e1] at hv
        obtain rfl := Option.some.inj hv
        have hna1 := Off.ext _ _ _ _ _ (hxo _ _ hna)
        have hsh := F.short _ (List.getElem_mem hj')
        have hgd := F.good _ (List.getElem_mem hj')
        have hil := inter_le 47 (B := 3) (ps := W[j]) (fun x hx => (hgd.gl x hx).len)
        with_reducible refine wpAny_assign_Name ?_
        (((with_reducible refine st_l (by walk_at "cx") ?e1 ?e2 ?e3 ?_); (case e1 => exact rfl); (case e2 => exact rfl); (case e3 => exact rfl); intro _ _))
        refine tests0 ?_
        with_reducible refine it_t ?_
        with_reducible refine wpAny_BinOp ?_
        ((with_reducible refine' const_T ?e1 ?_); (case e1 => first | exact slash_T | exact dot_T | exact dots_T | exact empty_T | exact nl_T | exact crlf_T | exact dcrlf_T | exact a_T | exact da_T | exact ddd_T | exact ah_T | exact sdots_T))
        (refine' Call_method1 ?e1 ?e2 ?e3 ?_); (case e1 => exact rfl); (case e2 => exact rfl); (case e3 => exact rfl)
        ((with_reducible refine' const_T ?e1 ?_); (case e1 => first | exact slash_T | exact dot_T | exact dots_T | exact empty_T | exact nl_T | exact crlf_T | exact dcrlf_T | exact a_T | exact da_T | exact ddd_T | exact ah_T | exact sdots_T))
        dsimp only
        refine m_join ?_
        (refine nm_l (by walk_at "cx") rfl rfl rfl rfl rfl ?_)
        refine ⟨na, nv, nm, W[j], rfl, hnv, fun x hx => Nat.le_trans (hgd.gl x hx).len (by decide), by lia, by walk_at "cx", hna1, fun t5 s12 C14 => ?_⟩
        with_reducible refine SB.add ?_ ?_
        rotate_left
        · rw [T_len, T_len]; rw [sizeLine_eq]; simp; lia
        intro t9 k9
        rw [T_app]
        refine ⟨_, _, Ext.refl _, ⟨hxo, ?_⟩, C14.tok _⟩
        have hst : (W.take (j + 1)).map pth = (W.take j).map pth ++ [pth W[j]] := by
          rw [List.take_succ_eq_append_getElem hj', List.map_append]; rfl
        rw [hst]
        exact hzs.snoc (x := pth W[j])
      · rintro zs g6 ⟨hx6, hzs⟩ Ta g7 m7 s11 e7 hgT C13
        rw [hwl, List.take_length] at hzs
        have x7 := hx6.trans e7
        have C14 := C13.nrm [("told", .ref Ta), ("ways", .ref wa), ("drawn", .ref Dr)] ⟨rfl, rfl, rfl, trivial⟩
        clear C13 C12 C11 C10 Ce
        have hT7 := hgT
        have hW7 := x7 _ _ hwa
        have hw7 := hwv.mono x7
        have hD7 := x7 _ _ (e5 _ _ hgD)
        have hd7 := (hz4.mono e5).mono x7
        have y7 := x5.trans x7
        clear hgT e7 hx6 x7 hwa hwv hgD hz4 e5 x5 xd
        ((with_reducible refine qnx (by assumption) ?_); (try clear hN hO))
        ((with_reducible refine ex_gen ?_); intro Qn hN hO)
        ((with_reducible refine wpAny_Assign_Name ?_ ?e1); (case e1 => exact rfl))
        refine wpAny_Call_Name_kw ?_
        (refine nm_b (by walk_at "cx") rfl rfl rfl rfl rfl rfl rfl ?_)
        refine' cbk1 ?e1 ?e2 ?e3 ?e4 ?_
        case e1 => exact rfl
        case e2 => exact rfl
        case e3 => exact rfl
        case e4 => exact rfl
        (with_reducible refine nm_call ?_)
        (refine nm_g (by walk_at "cx") rfl rfl rfl rfl rfl ?_)
        (refine' cu1 ?e1 ?e2 ?_); (case e1 => exact rfl); (case e2 => exact rfl)
        (refine nm_l (by walk_at "cx") rfl rfl rfl rfl rfl ?_)
        ((with_reducible refine And.intro ?k1 ?_); (case k1 => exact Cx.k (by walk_at "cx")))
        refine use (by walk_at "cx") (places_c (k := k) (Cx.k (by walk_at "cx")) ((hA.deeper _).mono (by lia)) (by (rw [Cx.vis (by walk_at "cx")]); exact hD7) (by (rw [Cx.vis (by walk_at "cx")]); exact hd7) D4) fun v g8 s12 e8 q C15 => ?_
        obtain ⟨pa, pv, pm, rfl, hpa, hpv⟩ := q
        (with_reducible refine nm_call ?_)
        (refine nm_g (by walk_at "cx") rfl rfl rfl rfl rfl ?_)
        (refine' cu1 ?e1 ?e2 ?_); (case e1 => exact rfl); (case e2 => exact rfl)
        (refine nm_g (by walk_at "cx") rfl rfl rfl rfl rfl ?_)
        ((with_reducible refine And.intro ?k1 ?_); (case k1 => exact Cx.k (by walk_at "cx")))
        dsimp only
        refine mkK (k := k + 18) (kin.keeps C15.keep) ((hA.deeper _).mono (by lia : k + 18 + 9 ≤ k + 29)) fun kA sE K => ?_
        have C16 := C15.rebase kin K
        have st := fun h => stays_of C15 (sE := sE) (h := h)
        have tr : ∀ (a : Addr) (vs : List Value) (n : Nat), g8 a = some (lstO vs n) → vis sE.heap a = some (lstO vs n) := fun a vs n e => vis_kok C15 kin K e (fun h => nomatch h)
        have hpa' := tr _ _ _ hpa
        have hT' := tr _ _ _ (e8 _ _ hT7)
        have hW' := tr _ _ _ (e8 _ _ hW7)
        have hw' := (hw7.mono e8).via tr
        obtain ⟨tb40, htb40⟩ := K.tab
        have kold : ∀ b o, s.heap.get? b = some o → b ≠ 40 → sE.heap.get? b = some o := fun b o e hb => K.keep _ _ (C15.keep _ _ e) hb
        have hLn := C15.new
        have hL40 := L_ne40 C15 kin
        have kg : sE.gens = s.gens := K.gens.trans C15.gens
        have ko : sE.os = s.os := K.os.trans C15.os
        have kcl := K.kcall
        have klt := K.klt
        clear C15 hpa tr hT7 hW7 hw7 e8 hD7 hd7 y7 K
        generalize hs2 : ({ sE with heap := sE.heap.hide L } : Shared) = sZ at *
        generalize hgE : vis sE.heap = gE at *
        refine listing_c (k := k) C16 (by rw [← hs2]; exact st) kcl klt ((hA.deeper _).mono (by lia)) hpa' hpv F.pnd F.pl F.sort (List.length_pos_of_mem F.cl.nil) F.few F.good F.short fun Lt lm lv g9 s13 e9 hLt hLt0 hgl hlv C17 => ?_
        have hT9 := e9 _ _ hT'
        have hW9 := e9 _ _ hW'
        have hw9 := hw'.mono e9
        clear C16 hT' hW' hw' hpa' hpv kcl klt
        have F13 := F.few
        (((with_reducible refine st_l (by walk_at "cx") ?e1 ?e2 ?e3 ?_); (case e1 => exact rfl); (case e2 => exact rfl); (case e3 => exact rfl); intro _ _))
        ((with_reducible refine qnx (by assumption) ?_); (try clear hN hO))
        ((with_reducible refine ex_gen ?_); intro Qn hN hO)
        ((with_reducible refine wpAny_Assign_Name ?_ ?e1); (case e1 => exact rfl))
        (with_reducible refine nm_call ?_)
        (refine nm_g (by walk_at "cx") rfl rfl rfl rfl rfl ?_)
        (refine' cu1 ?e1 ?e2 ?_); (case e1 => exact rfl); (case e2 => exact rfl)
        (refine nm_l (by walk_at "cx") rfl rfl rfl rfl rfl ?_)
        ((with_reducible refine And.intro ?k1 ?_); (case k1 => exact Cx.k (by walk_at "cx")))
        refine use (by walk_at "cx") (mail_c (k := k) (Cx.k (by walk_at "cx")) ((hA.deeper _).mono (by lia)) (by (rw [Cx.vis (by walk_at "cx")]); exact hgl) hlv F.few F.short F.good) fun v g10 s14 e10 q C18 => ?_
        obtain ⟨tm, rfl⟩ := q
        rw [mail_told F.good]
        (((with_reducible refine st_l (by walk_at "cx") ?e1 ?e2 ?e3 ?_); (case e1 => exact rfl); (case e2 => exact rfl); (case e3 => exact rfl); intro _ _))
        ((with_reducible refine qnx (by assumption) ?_); (try clear hN hO))
        ((with_reducible refine ex_gen ?_); intro Qn hN hO)
        with_reducible refine wpAny_If ?_
        with_reducible refine isTrue_or ?_
        ((with_reducible refine wpAny_isTrue_Compare1 ?_ ?e1); (case e1 => with_unfolding_all rfl))
        (refine nm_l (by walk_at "cx") rfl rfl rfl rfl rfl ?_)
        (refine nm_l (by walk_at "cx") rfl rfl rfl rfl rfl ?_)
        have hcp : ∀ x ∈ W.map pth, Cp x := fun x hx => by
          obtain ⟨y, hy, rfl⟩ := List.mem_map.mp hx
          exact pth_cp (F.good y hy).cp
        have hl10 := e10 _ _ hgl
        have hT10 := e10 _ _ hT9
        have hW10 := e10 _ _ hW9
        have hw10 := hw9.mono e10
        clear hgl hT9 hW9 hw9 C17
        refine ne_lists (k := k) (by walk_at "cx") hl10 hlv hT10 hzs ((hA.deeper _).mono (by lia)) hcp hcp ?_
        rw [decide_eq_true rfl]
        with_reducible refine wpAny_truthy_bool ?_
        with_reducible refine it_nt ?_
        with_reducible refine isTrue_or ?_
        ((with_reducible refine wpAny_isTrue_Compare1 ?_ ?e1); (case e1 => with_unfolding_all rfl))
        (refine nm_l (by walk_at "cx") rfl rfl rfl rfl rfl ?_)
        (with_reducible refine nm_call ?_)
        (refine nm_g (by walk_at "cx") rfl rfl rfl rfl rfl ?_)
        (refine' cu1 ?e1 ?e2 ?_); (case e1 => exact rfl); (case e2 => exact rfl)
        (refine nm_l (by walk_at "cx") rfl rfl rfl rfl rfl ?_)
        ((with_reducible refine And.intro ?k1 ?_); (case k1 => exact Cx.k (by walk_at "cx")))
        have hl3 : ∀ x ∈ W, ∀ y ∈ x, y.length ≤ 3 := fun x hx y hy => ((F.good x hx).gl y hy).len
        refine use (by walk_at "cx") (told_c (k := k) (Cx.k (by walk_at "cx")) ((hA.deeper _).mono (by lia)) (by (rw [Cx.vis (by walk_at "cx")]); exact hW10) (by (rw [Cx.vis (by walk_at "cx")]); exact hw10) (by lia) F.short (fun x hx => (F.good x hx).cp) hl3) fun v g11 s15 e11 q C19 => ?_
        obtain ⟨tk, rfl⟩ := q
        with_reducible refine PyProof.Rows.ne_str ?_
        with_reducible refine wpAny_truthy_bool ?_
        rw [T_bne]
        refine it_no (by simp) ?_
        with_reducible refine isTrue_or_nil ?_
        with_reducible refine it_f ?_
        with_reducible refine wpAny_execs_nil ?_
        ((with_reducible refine qnx (by assumption) ?_); (try clear hN hO))
        ((with_reducible refine ex_gen ?_); intro Qn hN hO)
        with_reducible refine wpAny_Return_some ?_
        ((with_reducible refine wpAny_Compare1 ?_ ?e1); (case e1 => with_unfolding_all rfl))
        (with_reducible refine nm_call ?_)
        (refine nm_g (by walk_at "cx") rfl rfl rfl rfl rfl ?_)
        (refine' cu3 ?e1 ?e2 ?_); (case e1 => exact rfl); (case e2 => exact rfl)
        (refine nm_g (by walk_at "cx") rfl rfl rfl rfl rfl ?_)
        (refine' Call_method1 ?e1 ?e2 ?e3 ?_); (case e1 => exact rfl); (case e2 => exact rfl); (case e3 => exact rfl)
        (refine nm_l (by walk_at "cx") rfl rfl rfl rfl rfl ?_)
        dsimp only
        have hl11 := e11 _ _ hl10
        have hT11 := e11 _ _ hT10
        clear hl10 hT10 hW10 hw10
        refine m_split2 (Nat.le_trans (toldL_len (by lia) hl3) (by decide)) (told_split F.good) ?_
        ((with_reducible refine' const_T ?e1 ?_); (case e1 => first | exact slash_T | exact dot_T | exact dots_T | exact empty_T | exact nl_T | exact crlf_T | exact dcrlf_T | exact a_T | exact da_T | exact ddd_T | exact ah_T | exact sdots_T))
        refine ⟨_, rfl, by walk_at "cx", fun R rv s16 hrv hR hR0 C20 => ?_⟩
        with_reducible refine tup_ ?_
        ((with_reducible refine wpAny_items_cons ?_ ?e1); (case e1 => exact rfl))
        with_reducible refine lst_ ?_
        ((with_reducible refine wpAny_items_cons ?_ ?e1); (case e1 => exact rfl))
        ((with_reducible refine' const_T ?e1 ?_); (case e1 => first | exact slash_T | exact dot_T | exact dots_T | exact empty_T | exact nl_T | exact crlf_T | exact dcrlf_T | exact a_T | exact da_T | exact ddd_T | exact ah_T | exact sdots_T))
        with_reducible refine wpAny_items_nil ?_
        refine ⟨by ((show _ ≤ 16777216; simp; done)), by walk_at "cx", fun kn s17 hkn hkn0 C21 => ?_⟩
        ((with_reducible refine wpAny_items_cons ?_ ?e1); (case e1 => exact rfl))
        with_reducible refine wpAny_Constant_int ?_
        ((with_reducible refine wpAny_items_cons ?_ ?e1); (case e1 => exact rfl))
        with_reducible refine Constant_bool ?_
        with_reducible refine wpAny_items_nil ?_
        refine ⟨by ((show _ ≤ 16777216; simp; done)), by walk_at "cx", fun ta s18 hta hta0 C22 => ?_⟩
        ((with_reducible refine And.intro ?k1 ?_); (case k1 => exact Cx.k (by walk_at "cx")))
        obtain ⟨gz, z1, ⟨v1, z2⟩, ⟨u1, z3⟩, z4, C23⟩ : ∃ gz, gz R = some (lstO rv 0) ∧ (∃ v, gz kn = some (lstO [.str (T [47]) v] 0)) ∧ (∃ u, gz ta = some (tupO [.ref kn, .int 0 u, .bool false])) ∧ Ext g11 gz ∧ Cx w sZ L _ gz [] s18 := by
          refine ⟨_, ?_, ?_, ?_, ?_, C22⟩
          · exact ((Ext.refl _).put hta) _ _ (((Ext.refl _).put hkn) _ _ (put_self _ _ _))
          · exact ⟨_, ((Ext.refl _).put hta) _ _ (put_self _ _ _)⟩
          · exact ⟨_, put_self _ _ _⟩
          · exact (((Ext.refl _).put hR).put (put_none hkn).2).put (put_none (put_none hta).2).2
        clear C22 C21 C20 hta hkn hR
        have hT12 := z4 _ _ hT11
        have kn1 : IsStrs [.str (T [47]) v1] (([[]] : List (List (List Nat))).map pth) := (IsStrs.nil).snoc (x := [47])
        refine use C23 (reduce_c (k := k) (dm := 0) (st := ([[]], 0, false)) C23.k ((hA.deeper _).mono (by lia)) (by rw [C23.vis]; exact z1) hrv ⟨kn, _, 0, u1, by rw [C23.vis]; exact z3, by rw [C23.vis]; exact z2, kn1⟩ (run_ok F.cl F.sort F.good (by lia) F.short)) fun v g22 s19 e22 q C24 => ?_
        obtain ⟨b, rfl, q⟩ := q
        rw [run_all F.cl F.sort F.good] at q
        obtain ⟨bk, bkv, bkm, bu, b1, b2, b3⟩ := q
        have hT13 := e22 _ _ hT12
        with_reducible refine tup_ ?_
        ((with_reducible refine wpAny_items_cons ?_ ?e1); (case e1 => exact rfl))
        (refine nm_l (by walk_at "cx") rfl rfl rfl rfl rfl ?_)
        ((with_reducible refine wpAny_items_cons ?_ ?e1); (case e1 => exact rfl))
        (with_reducible refine nm_call ?_)
        (refine nm_b (by walk_at "cx") rfl rfl rfl rfl rfl rfl rfl ?_)
        (refine' cb1 ?e2 ?_); (case e2 => exact rfl)
        (refine nm_l (by walk_at "cx") rfl rfl rfl rfl rfl ?_)
        refine Calls.call_len_list (Cx.isList (by walk_at "cx") hT13) (by rw [List.size_toArray, hzs.length, List.length_map]; lia) ?_
        ((with_reducible refine wpAny_items_cons ?_ ?e1); (case e1 => exact rfl))
        with_reducible refine Constant_bool ?_
        with_reducible refine wpAny_items_nil ?_
        refine ⟨by ((show _ ≤ 16777216; simp; done)), by walk_at "cx", fun tb2 s20 htb htb0 C25 => ?_⟩
        have xe := (Ext.refl g22).put (o := tupO [.ref Ta, .int (zs.toArray.size : Int) (s19.toks + 1), .bool true]) htb
        have hzl : (zs.toArray.size : Int) = ((W.length : Nat) : Int) := by
          rw [List.size_toArray, hzs.length, List.length_map]
        refine tup3_eq (k := k) C25 ((hA.deeper _).mono (by lia)) (xe _ _ b1) (xe _ _ b2) b3 (hb := put_self _ _ _ |>.trans (by rw [hzl])) (xe _ _ hT13) hzs hcp ?_
        have fk : ∀ b o, sE.heap.get? b = some o → b ≠ L → s20.heap.get? b = some o := fun b o e n => C25.keep b o (by rw [← hs2]; exact hide_get e n)
        ((with_reducible refine qot (by assumption) ?e1 ?_); (case e1 => exact fun h => nomatch h); (try clear hN hO))
        dsimp only
        refine hQ s20 (oldK_of (l := tb40) kin (fun b o e hb => fk _ _ (kold _ _ e hb) fun z => by rw [z, hLn] at e; cases e) (fk _ _ htb40 (Ne.symm hL40))) ?_ ?_
        · rw [C25.gens, ← hs2]; exact kg
        · rw [C25.os, ← hs2]; exact ko
end PartLW2

end Mine
end Bodies

open PySem PySem.W PyProof.Rows PySem.W.X
namespace Mine
theorem ints_mem {vs : List Value} {ns : List Int} (h : IntsAre vs ns) : ∀ v ∈ vs, ∃ i t, v = .int i t := by
  induction h with
  | nil => intro v hv; cases hv
  | cons n t _ ih =>
    intro v hv
    rcases List.mem_cons.mp hv with rfl | hv
    · exact ⟨_, _, rfl⟩
    · exact ih v hv
theorem caller_ok : Ok (50 + 30) callerA := ⟨rfl, by decide, by decide⟩
end Mine
set_option maxRecDepth 100000 in
set_option maxHeartbeats 8000000 in
theorem PySem.Challenge.cw_il0063_01_holds : PySem.Challenge.rw_il0063_01.Holds := by
  refine Mine.hd ?_
  k_fill
  intro w s₀ s₁ mg mb G Y fa o pm cd doc dV kV ho hd hcd hD hmg hg args vals as hpre hlay hrd hwl hlo
  have KX := kIn_of Y
  refine Ground.open G ?_
  intro T B D TE TW
  wrow_args hpre hlay hrd hwl hlo
  x_fa T KX hmg
  all_lens
  rename_i hcond _ hi9 hb9
  refine Mine.law_c (k := 50) KX Mine.caller_ok (by assumption) (Mine.ints_mem (by assumption)) (by omega) fun s' h1 h2 h3 => ?_
  refine ⟨.inl ⟨_, _, [], rfl, (fun _ => rfl), ReadsW.bool true, ?_, fun _ => ⟨List.nodup_nil, fun _ hm => (nomatch hm)⟩⟩, h1, h3, .of_eq (h2.trans hg)⟩
  first | rfl | wrow_post
