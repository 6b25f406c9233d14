import PyProof.Rows.All
import Wide.All
import OpenK.AllK
import Wide.FinOn
import KE.IntBitsLaws
import KE.BitLaws
import KE.KRevIter
import KE.KParD
import KE.KAnyBase
import KE.KTupSum
import KE.KStateDown
import KE.KRevSl
import PySem.Challenge.RW_wc0024_01
set_option Elab.async false
set_option maxRecDepth 100000
set_option maxHeartbeats 8000000
set_option pp.deepTerms false
set_option pp.maxSteps 1500
section
open PySem PySem.W PyProof.Rows
namespace Mine
/-- the top that the walk sees: the text without the statements that make nothing of use here -/
noncomputable def q0 : Program := view PySem.Challenge.pw_wc0024_01 [0, 1, 3, 4, 5, 6, 7, 8, 9, 10, 12, 13, 14, 15, 16, 17, 18, 20, 21, 22, 24, 26, 27, 28, 29, 30, 31, 32, 33]
noncomputable abbrev loose0 : List Str := [Str.ofString "tspecials", Str.ofString "_name_disallowed_re", Str.ofString "_value_disallowed_re", Str.ofString "_formatparam"]
section
local macro_rules | `(tactic| o_law) => `(tactic| refine holds_law ((congrFun PySem.W.Fast.te9446332074065402090 _).trans (by decide +kernel)) fun said => ?_)
local macro_rules | `(tactic| o_head $H) => `(tactic| (
  refine holds_open (q := q0) (loose := loose0) (Xt := fun s => xlAt q0 [] s && recOk (RowW.records PySem.Challenge.rw_wc0024_01.row.toRowW) s) (XP := XL q0 []) (Yf := Hook.obs $H) (Ya := Hook.val $H) (YP := Hook.says $H) (N := 3592)
    ?hl (Hook.of $H) (Hook.keeps $H) (fun s e => xl_of s (Bool.and_eq_true_iff.mp e).1) XL.keeps (by rfl) (by rfl) (by rfl) (fun s e => recFacts_of (Bool.and_eq_true_iff.mp e).2) (by rfl) (by assumption) (by decide +kernel) ⟨rfl, rfl, rfl, rfl, rfl, by decide +kernel⟩ ?hw ?hc
  case hl => (intro w; unfold openEnds fencedOpening topFrom; rw [PySem.W.Fast.te10274390034422433532, PySem.W.Fast.te1435165496053646825, PySem.W.Fast.te14289696077712309145, PySem.W.Fast.te14082659384304107361, PySem.W.Fast.te14364793385576792824, PySem.W.Fast.te4187177175401517315, PySem.W.Fast.te5923862056798008813]; kernel_rfl)))
open_top hd for PySem.Challenge.rw_wc0024_01
end
end Mine
end
section
open PySem PySem.W PySem.Calls PyProof.Rows
namespace Mine
noncomputable abbrev Ld := List (Addr × Obj)
noncomputable abbrev MP := PySem.Challenge.rw_wc0024_01.row.prog
noncomputable abbrev Kp (h h' : Heap) : Prop := ∀ b o, h.get? b = some o → h'.get? b = some o
noncomputable abbrev KpX (W : List Addr) (h h' : Heap) : Prop := ∀ b o, b ∉ W → h.get? b = some o → h'.get? b = some o
noncomputable abbrev No : Value → Shared → Prop := fun _ _ => False
noncomputable abbrev St (s₀ : Shared) (h : Heap) (tk : Nat) : Shared := { s₀ with heap := h, toks := tk + 1 }
/-- what is asked behind a step, under a name of its own: the terms stay small -/
noncomputable def Le {α : Type} (Q Q' : α → Shared → Prop) : Prop := ∀ v s, Q v s → Q' v s
theorem Le.go {α : Type} {Q Q' : α → Shared → Prop} (k : Le Q Q') {v : α} {s : Shared} (h : Q v s) : Q' v s := k v s h
theorem iteP {c : Prop} [Decidable c] {A B : Prop} (a : c → A) (b : ¬ c → B) : if c then A else B := by
  by_cases h : c
  · rw [if_pos h]; exact a h
  · rw [if_neg h]; exact b h
theorem iteT {c : Prop} [Decidable c] {A B : Prop} (h : c) (a : A) : if c then A else B := iteP (fun _ => a) fun z => absurd h z
theorem iteF {c : Prop} [Decidable c] {A B : Prop} (h : ¬ c) (b : B) : if c then A else B := iteP (fun z => absurd z h) fun _ => b
theorem iteD {c : Prop} [Decidable c] {A B : Prop} (h : ¬ c) (b : B) : if decide c = true then A else B := iteF (fun z => h (of_decide_eq_true z)) b
section
variable {α : Type} {M : Model} {A : Around} {E : Value → Shared → Prop} {s : Shared} {env : Env}
theorem opq {t : Sem α} {Q : α → Shared → Prop} (h : ∀ Q', Le Q Q' → wpAny M A t Q' E s) : wpAny M A t Q E s := h Q fun _ _ q => q
theorem execs_consO {st : Stmt} {rest : List Stmt} {Q : Flow → Shared → Prop} (h : ∀ Q', Le (fun f s' => match f with | .next => wpAny M A (execs rest env) Q E s' | f => Q f s') Q' → wpAny M A (exec st env) Q' E s) : wpAny M A (execs (st :: rest) env) Q E s :=
  wpAny_execs_cons (opq h)
end
noncomputable abbrev Ar (dp un : Nat) (fr : Option (List Env)) (gd : Option (List Code)) : Around := { handled := none, depth := dp, frames := fr, guards := gd, units := un }
noncomputable def lk (l : List (Str × Value)) : Str → Option Value := fun y => l.lookup y
theorem lk_cons (x : Str) (v : Value) (l : List (Str × Value)) : lk ((x, v) :: l) = fun y => if y = x then some v else lk l y := by
  funext y
  show (match y == x with | true => some v | false => l.lookup y) = _
  by_cases h : y = x
  · subst h; simp
  · rw [beq_eq_false_iff_ne.mpr h, if_neg h]; rfl
/-- the object of a list -/
noncomputable def IsLst (o : Obj) (vs : List Value) : Prop := o.cls = .type "list" ∧ ∃ n, o.data = .seq vs.toArray n
theorem IsLst.of (vs : List Value) (n : Nat) : IsLst (W.listOf vs.toArray n) vs := ⟨rfl, n, rfl⟩
theorem IsLst.is {h : Heap} {a : Addr} {o : Obj} {vs : List Value} (x : IsLst o vs) (e : h.get? a = some o) : h.IsList a vs.toArray := ⟨o, e, x.1, x.2⟩
/-- what stands of the top, at a heap -/
structure Gd (w : World) (loose : List Str) (mean : ExcName → Option Value) (mg mb : Str → Option Value) (h : Heap) : Prop where
  K : (hd.heap_1 w.params).In h
  T : Top topProg loose mean mg mb h
  c1 : CodeHd h 114 110
  c2 : CodeHd h 121 117
theorem Gd.keeps {w : World} {loose : List Str} {mean : ExcName → Option Value} {mg mb : Str → Option Value} {h h' : Heap} (G : Gd w loose mean mg mb h) (k : Kp h h') : Gd w loose mean mg mb h' :=
  ⟨G.K.keeps k, G.T.keeps k, G.c1.keeps k, G.c2.keeps k⟩
/-- a frame: its names, what it keeps, the objects at hand -/
structure Fm (g : Heap) (L : Addr) (l : List (Str × Value)) (N : Ld) (h : Heap) : Prop where
  ns : h.Ns L (lk l)
  keep : Kp g h
  Lg : g.get? L = none
  led : ∀ q ∈ N, h.get? q.1 = some q.2 ∧ q.1 ≠ L ∧ g.get? q.1 = none
  nd : (N.map (·.1)).Nodup
section
variable {g h h' : Heap} {L : Addr} {l l' : List (Str × Value)} {N N' : Ld}
theorem sb_get {a b : Addr} {o : Obj} (hs : Heap.SameBut a h h') (hne : b ≠ a) (e : h.get? b = some o) : h'.get? b = some o := (hs.2 b hne).trans e
theorem Fm.store (F : Fm g L l N h) {x : Str} {v : Value} (hn : h'.Ns L (fun y => if y = x then some v else lk l y)) (hs : Heap.SameBut L h h') : Fm g L ((x, v) :: l) N h' := by
  refine ⟨by rw [lk_cons]; exact hn, fun b o e => sb_get hs (fun q => ?_) (F.keep b o e), F.Lg, fun q hq => ⟨sb_get hs (F.led q hq).2.1 (F.led q hq).1, (F.led q hq).2⟩, F.nd⟩
  rw [q, F.Lg] at e; cases e
theorem Fm.lt (F : Fm g L l N h) {q : Addr × Obj} (hq : q ∈ N) : q.1 < h.objs.size := Heap.lt_size (F.led q hq).1
theorem Fm.kp (F : Fm g L l N h) (k : Kp h h') : Fm g L l N h' :=
  ⟨F.ns.keeps k, fun b o e => k b o (F.keep b o e), F.Lg, fun q hq => ⟨k _ _ (F.led q hq).1, (F.led q hq).2⟩, F.nd⟩
theorem Fm.gnone (F : Fm g L l N h) {a : Addr} (ha : h.get? a = none) : g.get? a = none := by
  cases e : g.get? a with
  | none => rfl
  | some o => rw [F.keep a o e] at ha; cases ha
theorem Fm.Lne (F : Fm g L l N h) {a : Addr} (ha : h.get? a = none) : a ≠ L := by
  obtain ⟨o, _, _, e, _⟩ := F.ns
  intro q; rw [q, e] at ha; cases ha
/-- new objects of a call -/
noncomputable abbrev New (h h' : Heap) : Addr → Obj → Prop := fun a o => h.get? a = none ∧ h'.get? a = some o
theorem Fm.app (F : Fm g L l N h) (k : Kp h h') {tl : Ld} (ht : ∀ q ∈ tl, New h h' q.1 q.2) (hd : (tl.map (·.1)).Nodup) : Fm g L l (N ++ tl) h' := by
  have F' := F.kp k
  refine ⟨F'.ns, F'.keep, F.Lg, fun q hq => ?_, ?_⟩
  · rcases List.mem_append.mp hq with hq | hq
    · exact F'.led q hq
    · exact ⟨(ht q hq).2, F.Lne (ht q hq).1, F.gnone (ht q hq).1⟩
  · rw [List.map_append]
    refine List.nodup_append.mpr ⟨F.nd, hd, fun a ha b hb q => ?_⟩
    obtain ⟨p, hp, rfl⟩ := List.mem_map.mp ha
    obtain ⟨r, hr, rfl⟩ := List.mem_map.mp hb
    have := (ht r hr).1
    rw [← q, (F.led p hp).1] at this; cases this
theorem Fm.push (F : Fm g L l N h) (o : Obj) (hf : o.isFreed = false := by rfl) : Fm g L l ((h.objs.size, o) :: N) (h.push o) := by
  have k : Kp h (h.push o) := fun b o' e => Heap.get?_push_of_some _ e
  have F' := F.kp k
  have hn : h.get? h.objs.size = none := Heap.get?_none_of_le (Nat.le_refl _)
  refine ⟨F'.ns, F'.keep, F.Lg, fun q hq => ?_, ?_⟩
  · rcases List.mem_cons.mp hq with rfl | hq
    · exact ⟨Heap.get?_push_size _ hf, F.Lne hn, F.gnone hn⟩
    · exact F'.led q hq
  · rw [List.map_cons]
    refine List.nodup_cons.mpr ⟨fun hm => ?_, F.nd⟩
    obtain ⟨p, hp, e⟩ := List.mem_map.mp hm
    exact absurd (F.lt hp) (by rw [e]; exact Nat.lt_irrefl _)
theorem Fm.sub (F : Fm g L l N h) (hs : N'.Sublist N) : Fm g L l N' h :=
  ⟨F.ns, F.keep, F.Lg, fun q hq => F.led q (hs.subset hq), F.nd.sublist (hs.map _)⟩
theorem Fm.eqN (hN : N = N') (F : Fm g L l N h) : Fm g L l N' h := hN ▸ F
theorem Fm.eqA {Is : Ld} (hN : N = N') (F : Fm g L l (Is ++ N) h) : Fm g L l (Is ++ N') h := hN ▸ F
theorem Fm.eqB {Is : Ld} {q : Addr × Obj} (hN : N = N') (F : Fm g L l (q :: (Is ++ N)) h) : Fm g L l (q :: (Is ++ N')) h := hN ▸ F
theorem Fm.eqC {q : Addr × Obj} (hN : N = N') (F : Fm g L l (q :: N) h) : Fm g L l (q :: N') h := hN ▸ F
theorem Fm.val {x : Str} {v v' : Value} (e : v = v') (F : Fm g L ((x, v) :: l) N h) : Fm g L ((x, v') :: l) N h := e ▸ F
theorem dr0 {b : List (Str × Value)} {x : Str} {k : Nat} {G : Prop} (hb : ∃ t, b = [(x, .int (0 + (k : Int) * 1) t)]) (F : Fm g L (b ++ l) N h) (H : ∀ t, Fm g L ((x, .int (k : Nat) t) :: l) N h → G) : G := by
  obtain ⟨t, rfl⟩ := hb
  exact H t (by have e : (0 : Int) + (k : Int) * 1 = (k : Nat) := by omega
                exact e ▸ F)
theorem drT {b : List (Str × Value)} {x : Str} {v : Tok → Value} {G : Prop} (hb : ∃ t, b = [(x, v t)]) (F : Fm g L (b ++ l) N h) (H : ∀ t, Fm g L ((x, v t) :: l) N h → G) : G := by obtain ⟨t, rfl⟩ := hb; exact H t F
theorem drV {b : List (Str × Value)} {x : Str} {P : Value → Prop} {G : Prop} (hb : ∃ v, P v ∧ b = [(x, v)]) (F : Fm g L (b ++ l) N h) (H : ∀ v, P v → Fm g L ((x, v) :: l) N h → G) : G := by obtain ⟨v, hv, rfl⟩ := hb; exact H v hv F
theorem Fm.perm (F : Fm g L l N h) (hp : N.Perm N') : Fm g L l N' h :=
  ⟨F.ns, F.keep, F.Lg, fun q hq => F.led q (hp.mem_iff.mpr hq), (hp.map _).nodup_iff.mp F.nd⟩
theorem Fm.upd {a : Addr} {o o' : Obj} (F : Fm g L l ((a, o) :: N) h) (hs : Heap.SameBut a h h') (e : h'.get? a = some o') : Fm g L l ((a, o') :: N) h' := by
  have A := F.led _ (.head _)
  have nd := List.nodup_cons.mp (show ((a :: N.map (·.1))).Nodup from F.nd)
  refine ⟨F.ns.sameBut hs A.2.1.symm, fun b x q => sb_get hs (fun z => ?_) (F.keep b x q), F.Lg, fun q hq => ?_, F.nd⟩
  · rw [z, A.2.2] at q; cases q
  · rcases List.mem_cons.mp hq with rfl | hq
    · exact ⟨e, A.2⟩
    · have B := F.led q (.tail _ hq)
      exact ⟨sb_get hs (fun z => nd.1 (z ▸ List.mem_map_of_mem hq)) B.1, B.2⟩
theorem Fm.new (F : Fm g L l N h) {a : Addr} {o : Obj} (k : Kp h h') (ha : h.get? a = none) (e : h'.get? a = some o) : Fm g L l ((a, o) :: N) h' := by
  have F' := F.app (tl := [(a, o)]) k (fun q hq => by rw [List.mem_singleton.mp hq]; exact ⟨ha, e⟩) (List.nodup_cons.mpr ⟨(fun h => nomatch h), List.nodup_nil⟩)
  exact F'.perm List.perm_append_comm
end
section
variable {prog : Program} {w : World} {A : Around} {s₀ : Shared} {h g : Heap} {tk : Nat} {l : List (Str × Value)} {N : Ld} {env : Env} {x : Str} {pos : Pos} {v : Value}
  {loose : List Str} {mean : ExcName → Option Value} {mg mb : Str → Option Value}
/-- a local name -/
theorem nm {Q : Value → Shared → Prop} (F : Fm g env.locals l N h) (H : Q v (St s₀ h tk)) (hv : lk l x = some v := by rfl) (hk : env.scope.kind = .function := by rfl) (hx : env.kindOf x = some .local := by rfl) (hd : (x == ("__debug__" : Str)) = false := by decide) :
    wpAny (model prog w) A (eval (.Name x pos) env) Q No (St s₀ h tk) := wpAny_Name (wpAny_loadName_local hk hx F.ns hv H) hd
theorem nmL {Q : Value → Shared → Prop} (F : Fm g env.locals l N h) (H : Q v (St s₀ h tk)) (hv : lk l x = some v := by rfl) (hk : env.scope.kind = .function := by rfl) (hx : env.kindOf x = some .local := by rfl) :
    wpAny (model prog w) A (loadName env x) Q No (St s₀ h tk) := wpAny_loadName_local hk hx F.ns hv H
/-- a name of the text's top -/
theorem gl {Q : Value → Shared → Prop} (F : Fm g env.locals l N h) (G : Gd w loose mean mg mb g) (hm : mg x = some v) (H : Q v (St s₀ h tk)) (hk : env.scope.kind = .function := by rfl) (hx : env.kindOf x = some .globalImplicit := by rfl) (hg : env.globals = mainGlobals := by rfl) (hd : (x == ("__debug__" : Str)) = false := by decide) :
    wpAny (model prog w) A (eval (.Name x pos) env) Q No (St s₀ h tk) :=
  Name_function_global hk hx (loadGlobal_global (by rw [hg]; exact G.T.g.keeps F.keep) hm H) hd
/-- a built-in name -/
theorem bl {Q : Value → Shared → Prop} (F : Fm g env.locals l N h) (G : Gd w loose mean mg mb g) (hm : mg x = none) (hv : bootBuiltins x = some v) (H : Q v (St s₀ h tk)) (hn : x ≠ "__name__" := by decide) (hk : env.scope.kind = .function := by rfl) (hx : env.kindOf x = some .globalImplicit := by rfl) (hg : env.globals = mainGlobals := by rfl) (hb : env.builtins = builtinsNs := by rfl) (hd : (x == ("__debug__" : Str)) = false := by decide) :
    wpAny (model prog w) A (eval (.Name x pos) env) Q No (St s₀ h tk) :=
  Name_function_global hk hx (loadGlobal_builtin (by rw [hg]; exact G.T.g.keeps F.keep) hm (by rw [hb]; exact G.T.b.keeps F.keep) ((G.T.builtins x hn).trans hv) H) hd
theorem stl {Q : Unit → Shared → Prop} (F : Fm g env.locals l N h) (H : ∀ h' tk', tk ≤ tk' → Fm g env.locals ((x, v) :: l) N h' → Q () (St s₀ h' tk')) (hk : env.scope.kind = .function := by rfl) (hx : env.kindOf x = some .local := by rfl) :
    wpAny (model prog w) A (storeName env x v) Q No (St s₀ h tk) :=
  wpAny_storeName_local hx F.ns (fun h' hn hs => H h' (tk + 1) (Nat.le_succ _) (F.store hn hs)) (by rw [hk]; rfl)
theorem ci {Q : Value → Shared → Prop} {i : Int} {k : Nat} (H : ∀ t tk', tk ≤ tk' → Q (.int i t) (St s₀ h tk')) : wpAny (model prog w) A (eval (.Constant (.int i) k pos) env) Q No (St s₀ h tk) :=
  wpAny_Constant_int (H (tk + 1) (tk + 1) (Nat.le_succ _))
theorem cstr {Q : Value → Shared → Prop} {i : Str} {k : Nat} (H : ∀ t tk', tk < t → t ≤ tk' → Q (.str i t) (St s₀ h tk')) : wpAny (model prog w) A (eval (.Constant (.str i) k pos) env) Q No (St s₀ h tk) :=
  wpAny_Constant_str (H (tk + 1) (tk + 1) (Nat.lt_succ_self _) (Nat.le_refl _))
end
section
variable {w : World} {s₀ : Shared} {h : Heap} {tk : Nat} {loose : List Str} {mean : ExcName → Option Value} {mg mb : Str → Option Value} {dp un : Nat} {fr : Option (List Env)} {gd : Option (List Code)}
/-- a call gives back what `post` says and changes none of what stood, but at W -/
noncomputable def Fn (w : World) (f : Value) (vs : List Value) (d u : Nat) (W : List Addr) (h : Heap) (tk : Nat) (post : Value → Heap → Nat → Prop) : Prop :=
  ∀ (dp un : Nat) (fr : Option (List Env)) (gd : Option (List Code)) (s₀ : Shared) (Q : Value → Shared → Prop), dp + d < recursionLimit → un + u < cLine →
    (∀ r h' tk', tk ≤ tk' → KpX W h h' → post r h' tk' → Q r (St s₀ h' tk')) →
    wpAny (model PySem.Challenge.rw_wc0024_01.row.prog w) (Ar dp un fr gd) (call f vs) Q No (St s₀ h tk)
theorem Fn.vF {f v : Value} {vs : List Value} {d u : Nat} {g : Heap} {L : Addr} {l : List (Str × Value)} {N : Ld} {Q : Value → Shared → Prop} (T : Fn w f vs d u [] h tk (fun r _ _ => r = v)) (F : Fm g L l N h) (hd : dp + d < recursionLimit) (hu : un + u < cLine)
    (H : ∀ h' tk', tk ≤ tk' → Fm g L l N h' → Q v (St s₀ h' tk')) : wpAny (model PySem.Challenge.rw_wc0024_01.row.prog w) (Ar dp un fr gd) (call f vs) Q No (St s₀ h tk) :=
  T dp un fr gd s₀ Q hd hu fun _ h' tk' t k e => e ▸ H h' tk' t (F.kp fun b o q => k b o (fun z => nomatch z) q)
theorem Fn.iF {f : Value} {i : Int} {vs : List Value} {d u : Nat} {g : Heap} {L : Addr} {l : List (Str × Value)} {N : Ld} {Q : Value → Shared → Prop} (T : Fn w f vs d u [] h tk (fun r _ _ => ∃ t, r = .int i t)) (F : Fm g L l N h) (hd : dp + d < recursionLimit) (hu : un + u < cLine)
    (H : ∀ h' tk' t, tk ≤ tk' → Fm g L l N h' → Q (.int i t) (St s₀ h' tk')) : wpAny (model PySem.Challenge.rw_wc0024_01.row.prog w) (Ar dp un fr gd) (call f vs) Q No (St s₀ h tk) :=
  T dp un fr gd s₀ Q hd hu fun _ h' tk' t k e => e.elim fun u e => e ▸ H h' tk' u t (F.kp fun b o q => k b o (fun z => nomatch z) q)
theorem enterN {name qual : Str} {params : Arguments} {body : List Stmt} {scope : Scope} {dV kV doc pm cdv ct oc : Value} {an od : Option Addr} {osl : Array (Option Value)} {f : Addr} {vs : List Value} {binds : List (Str × Value)} {Q : Value → Shared → Prop} {g : Heap} {N : Ld}
    (G : Gd w loose mean mg mb g) (kg : Kp g h) (hN : ∀ q ∈ N, h.get? q.1 = some q.2 ∧ g.get? q.1 = none) (nd : (N.map (·.1)).Nodup)
    (ho : (hd.heap_1 w.params).lookup f = some ⟨oc, od, .func (fnOf name qual params body scope dV kV doc pm an cdv ct), osl⟩) (hcd : codeIn (hd.heap_1 w.params) cdv qual = true) (hroom : dp < recursionLimit)
    (hbind : bindArgs (fnOf name qual params body scope dV kV doc pm an cdv ct) ⟨vs, []⟩ = pure binds) (hloc : (binds.all fun y => scope.names.lookup y.1 == some .local) = true)
    (H : ∀ fr' L h₁ tk₁, tk ≤ tk₁ → Fm g L binds.reverse N h₁ →
      wpAny (model PySem.Challenge.rw_wc0024_01.row.prog w) (Ar (dp + 1) (un + 3) fr' gd) (execs body (envOf qual scope L f cdv))
        (fun fl s' => Q (match fl with | .ret v => v | _ => .none) s') No (St s₀ h₁ tk₁))
    (hco : scope.isCoroutine = false) (hgen : scope.isGenerator = false) (hk : scope.kind = .function)
    (hcell : ∀ x ∈ scope.names, x.2 ≠ .cell) : wpAny (model PySem.Challenge.rw_wc0024_01.row.prog w) (Ar dp un fr gd) (call (.ref f) vs) Q No (St s₀ h tk) := by
  refine wpAny_call (codeAny_call_def (fd := fnOf name qual params body scope dV kV doc pm an cdv ct) hroom (kg _ _ (G.K _ _ ho)) rfl (G.T.nolimit.keeps kg) (codeRec_of (G.K.keeps kg) hcd) rfl (BindsTo.of_eq hbind) hcell (fun y hy => by
    have := List.all_eq_true.mp hloc y hy
    exact beq_iff_eq.mp this) (fun h₁ hns hk₁ => ?_) hco hgen hk)
  have e : St s₀ h₁ (tk + binds.length) = { St s₀ h tk with heap := h₁, toks := (St s₀ h tk).toks + binds.length } := by
    show ({ s₀ with heap := h₁, toks := tk + binds.length + 1 } : Shared) = { s₀ with heap := h₁, toks := tk + 1 + binds.length }
    rw [Nat.add_right_comm]
  have hL : h.get? h.objs.size = none := Heap.get?_none_of_le (Nat.le_refl _)
  have gL : g.get? h.objs.size = none := by
    cases e : g.get? h.objs.size with
    | none => rfl
    | some o => rw [kg _ _ e] at hL; cases hL
  rw [← e]
  exact wpAny_mono (H _ h.objs.size h₁ _ (Nat.le_add_right _ _) ⟨hns, fun b o e => hk₁ b o (kg b o e), gL, fun q hq => ⟨hk₁ _ _ (hN q hq).1, (fun z => absurd (hN q hq).1 (by rw [z, hL]; exact fun h => nomatch h)), (hN q hq).2⟩, nd⟩) (fun _ _ q => q) fun _ _ q => q.elim
theorem enterP {name qual : Str} {params : Arguments} {body : List Stmt} {scope : Scope} {dV kV doc pm cdv ct oc : Value} {an od : Option Addr} {osl : Array (Option Value)} {f : Addr} {vs : List Value} {binds : List (Str × Value)} {Q : Value → Shared → Prop}
    (G : Gd w loose mean mg mb h)
    (ho : (hd.heap_1 w.params).lookup f = some ⟨oc, od, .func (fnOf name qual params body scope dV kV doc pm an cdv ct), osl⟩) (hcd : codeIn (hd.heap_1 w.params) cdv qual = true) (hroom : dp < recursionLimit)
    (hbind : bindArgs (fnOf name qual params body scope dV kV doc pm an cdv ct) ⟨vs, []⟩ = pure binds) (hloc : (binds.all fun y => scope.names.lookup y.1 == some .local) = true)
    (H : ∀ fr' L h₁ tk₁, tk ≤ tk₁ → Fm h L binds.reverse [] h₁ →
      wpAny (model PySem.Challenge.rw_wc0024_01.row.prog w) (Ar (dp + 1) (un + 3) fr' gd) (execs body (envOf qual scope L f cdv))
        (fun fl s' => Q (match fl with | .ret v => v | _ => .none) s') No (St s₀ h₁ tk₁))
    (hco : scope.isCoroutine = false) (hgen : scope.isGenerator = false) (hk : scope.kind = .function)
    (hcell : ∀ x ∈ scope.names, x.2 ≠ .cell) : wpAny (model PySem.Challenge.rw_wc0024_01.row.prog w) (Ar dp un fr gd) (call (.ref f) vs) Q No (St s₀ h tk) :=
  enterN (g := h) (N := []) G (fun _ _ e => e) (fun _ hq => nomatch hq) List.nodup_nil ho hcd hroom hbind hloc H hco hgen hk hcell
theorem hide_kp {W : List Addr} : Kp (hideAll h W) h := fun _ _ e => of_hideAll _ e
theorem hide_kpx {W : List Addr} {h' : Heap} (k : Kp (hideAll h W) h') : KpX W h h' := fun b o hb e => k b o (hideAll_get _ e hb)
end
end Mine
end
section
open PySem PySem.W PySem.Calls PyProof.Rows
namespace Mine
section
variable {prog : Program} {w : World} {A : Around} {s₀ : Shared} {h g : Heap} {tk : Nat} {l : List (Str × Value)} {N : Ld} {env : Env} {x : Str} {pos : Pos} {v : Value}
theorem toks_back {h' : Heap} {t : Nat} (ht : tk + 1 ≤ t) : ({ St s₀ h tk with heap := h', toks := t } : Shared) = St s₀ h' (t - 1) := by
  show ({ s₀ with heap := h', toks := t } : Shared) = { s₀ with heap := h', toks := t - 1 + 1 }
  rw [Nat.sub_add_cancel (Nat.le_trans (Nat.succ_le_succ (Nat.zero_le _)) ht)]
theorem fm_it {I : Addr} {o o' : Obj} {L : Addr} {h' : Heap} (F : Fm g L l ((I, o) :: N) h) (hk : ∀ b o, b ∉ [I] → h.get? b = some o → h'.get? b = some o) (e : h'.get? I = some o') : Fm g L l ((I, o') :: N) h' := by
  have A := F.led _ (.head _)
  have nd := List.nodup_cons.mp (show ((I :: N.map (·.1))).Nodup from F.nd)
  refine ⟨F.ns.at' fun o q => hk _ o (by simpa using A.2.1.symm) q, fun b x q => hk b x (fun z => ?_) (F.keep b x q), F.Lg, fun q hq => ?_, F.nd⟩
  · rw [List.mem_singleton.mp z, A.2.2] at q; cases q
  · rcases List.mem_cons.mp hq with rfl | hq
    · exact ⟨e, A.2⟩
    · have B := F.led q (.tail _ hq)
      exact ⟨hk _ _ (fun z => nd.1 (List.mem_singleton.mp z ▸ List.mem_map_of_mem hq)) B.1, B.2⟩
theorem fm_out {I : Addr} {o : Obj} {L : Addr} {h' : Heap} (F : Fm g L l ((I, o) :: N) h) (hk : ∀ b o, b ∉ [I] → h.get? b = some o → h'.get? b = some o) : Fm g L l N h' := by
  have A := F.led _ (.head _)
  have nd := List.nodup_cons.mp (show ((I :: N.map (·.1))).Nodup from F.nd)
  refine ⟨F.ns.at' fun o q => hk _ o (by simpa using A.2.1.symm) q, fun b x q => hk b x (fun z => ?_) (F.keep b x q), F.Lg, fun q hq => ?_, nd.2⟩
  · rw [List.mem_singleton.mp z, A.2.2] at q; cases q
  · have B := F.led q (.tail _ hq)
    exact ⟨hk _ _ (fun z => nd.1 (List.mem_singleton.mp z ▸ List.mem_map_of_mem hq)) B.1, B.2⟩
end
end Mine
end
section
open PySem PySem.W PySem.Calls PyProof.Rows PySem.Spec
namespace Mine
noncomputable abbrev tupO (vs : List Value) (n : Nat) : Obj := { cls := .type "tuple", data := .seq vs.toArray n }
noncomputable abbrev lisO (vs : List Value) (n : Nat) : Obj := W.listOf vs.toArray n
mutual
/-- v bears the datum d; its objects are known by H, its texts' tokens are at most B -/
inductive RD (H : Addr → Obj → Prop) (B : Nat) : Value → Dat → Prop
  | none : RD H B Value.none Dat.none
  | bool (b : Bool) : RD H B (Value.bool b) (Dat.bool b)
  | int (i : Int) (t : Tok) : RD H B (Value.int i t) (Dat.int i)
  | str (x : Str) (t : Tok) : t ≠ 0 → t ≤ B → RD H B (Value.str x t) (Dat.str x)
  | tuple {a : Addr} {vs : List Value} {n : Nat} {ds : List Dat} : H a (tupO vs n) → RA H B vs ds → RD H B (Value.ref a) (Dat.tuple ds)
  | list {a : Addr} {o : Obj} {vs : List Value} {ds : List Dat} : H a o → IsLst o vs → RA H B vs ds → RD H B (Value.ref a) (Dat.list ds)
inductive RA (H : Addr → Obj → Prop) (B : Nat) : List Value → List Dat → Prop
  | nil : RA H B [] []
  | cons {v : Value} {vs : List Value} {d : Dat} {ds : List Dat} : RD H B v d → RA H B vs ds → RA H B (v :: vs) (d :: ds)
end
section
variable {H H' : Addr → Obj → Prop} {B B' : Nat}
theorem RD.mono (hs : ∀ a o, H a o → H' a o) (hb : B ≤ B') {v : Value} {d : Dat} (R : RD H B v d) : RD H' B' v d :=
  RD.rec (motive_1 := fun v d _ => RD H' B' v d) (motive_2 := fun vs ds _ => RA H' B' vs ds) .none .bool .int (fun x t h1 h2 => .str x t h1 (Nat.le_trans h2 hb)) (fun h _ ih => .tuple (hs _ _ h) ih) (fun h hl _ ih => .list (hs _ _ h) hl ih) .nil (fun _ _ i1 i2 => .cons i1 i2) R
theorem RA.mono (hs : ∀ a o, H a o → H' a o) (hb : B ≤ B') {vs : List Value} {ds : List Dat} (R : RA H B vs ds) : RA H' B' vs ds :=
  RA.rec (motive_1 := fun v d _ => RD H' B' v d) (motive_2 := fun vs ds _ => RA H' B' vs ds) .none .bool .int (fun x t h1 h2 => .str x t h1 (Nat.le_trans h2 hb)) (fun h _ ih => .tuple (hs _ _ h) ih) (fun h hl _ ih => .list (hs _ _ h) hl ih) .nil (fun _ _ i1 i2 => .cons i1 i2) R
theorem RA.length {vs : List Value} {ds : List Dat} (h : RA H B vs ds) : vs.length = ds.length := by
  induction vs generalizing ds with
  | nil => cases h; rfl
  | cons v vs ih => cases h with | cons _ r => rw [List.length_cons, List.length_cons, ih r]
theorem RA.append {vs ws : List Value} {ds es : List Dat} (h : RA H B vs ds) (k : RA H B ws es) : RA H B (vs ++ ws) (ds ++ es) := by
  induction vs generalizing ds with
  | nil => cases h; exact k
  | cons v vs ih => cases h with | cons h r => exact .cons h (ih r)
theorem RA.snoc {vs : List Value} {ds : List Dat} {v : Value} {d : Dat} (h : RA H B vs ds) (k : RD H B v d) : RA H B (vs ++ [v]) (ds ++ [d]) := h.append (.cons k .nil)
theorem RA.get {vs : List Value} {ds : List Dat} (h : RA H B vs ds) {k : Nat} {v : Value} (hv : vs[k]? = some v) : ∃ d, ds[k]? = some d ∧ RD H B v d := by
  induction vs generalizing ds k with
  | nil => cases hv
  | cons u vs ih =>
    cases h with
    | cons h r =>
      cases k with
      | zero => cases hv; exact ⟨_, rfl, h⟩
      | succ k => exact ih r hv
theorem RA.getD {vs : List Value} {ds : List Dat} (h : RA H B vs ds) {k : Nat} {d : Dat} (hd : ds[k]? = some d) : ∃ v, vs[k]? = some v ∧ RD H B v d := by
  induction vs generalizing ds k with
  | nil => cases h; cases hd
  | cons u vs ih =>
    cases h with
    | cons h r =>
      cases k with
      | zero => cases hd; exact ⟨_, rfl, h⟩
      | succ k => exact ih r hd
theorem RA.take {vs : List Value} {ds : List Dat} (h : RA H B vs ds) (k : Nat) : RA H B (vs.take k) (ds.take k) := by
  induction vs generalizing ds k with
  | nil => cases h; simp; exact .nil
  | cons u vs ih =>
    cases h with
    | cons h r => cases k with
      | zero => exact .nil
      | succ k => exact .cons h (ih r k)
theorem RA.reverse {vs : List Value} {ds : List Dat} (h : RA H B vs ds) : RA H B vs.reverse ds.reverse := by
  induction vs generalizing ds with
  | nil => cases h; exact .nil
  | cons u vs ih => cases h with | cons h r => rw [List.reverse_cons, List.reverse_cons]; exact (ih r).snoc h
theorem RA.set {vs : List Value} {ds : List Dat} (h : RA H B vs ds) (k : Nat) {v : Value} {d : Dat} (hd : RD H B v d) : RA H B (vs.set k v) (ds.set k d) := by
  induction vs generalizing ds k with
  | nil => cases h; exact .nil
  | cons u vs ih =>
    cases h with
    | cons h r => cases k with
      | zero => exact .cons hd r
      | succ k => exact .cons h (ih r k)
theorem RA.ints {vs : List Value} {ns : List Int} (h : IntsAre vs ns) : RA H B vs (ns.map Dat.int) := by
  induction h with
  | nil => exact .nil
  | cons _ _ _ ih => exact .cons (.int _ _) ih
theorem RA.toInts {vs : List Value} {ns : List Int} (h : RA H B vs (ns.map Dat.int)) : IntsAre vs ns := by
  induction ns generalizing vs with
  | nil => cases h; exact .nil
  | cons n ns ih => cases h with | cons h r => cases h; exact .cons _ _ (ih r)
/-- the datum's objects as a ledger -/
theorem led_union {t1 t2 : Ld} (hf : ∀ a o o', H a o → H a o' → o = o') (n1 : (t1.map (·.1)).Nodup) (n2 : (t2.map (·.1)).Nodup) (h1 : ∀ q ∈ t1, H q.1 q.2) (h2 : ∀ q ∈ t2, H q.1 q.2) :
    ∃ t : Ld, (t.map (·.1)).Nodup ∧ (∀ q ∈ t, H q.1 q.2) ∧ (∀ q ∈ t1, q ∈ t) ∧ ∀ q ∈ t2, q ∈ t := by
  refine ⟨t1 ++ t2.filter (fun q => !(t1.map (·.1)).contains q.1), ?_, ?_, fun q hq => List.mem_append.mpr (.inl hq), fun q hq => ?_⟩
  · rw [List.map_append]
    refine List.nodup_append.mpr ⟨n1, n2.sublist (List.Sublist.map _ List.filter_sublist), fun a ha b hb e => ?_⟩
    obtain ⟨q, hq, rfl⟩ := List.mem_map.mp hb
    have := (List.mem_filter.mp hq).2
    subst e
    simp only [Bool.not_eq_true', List.contains_eq_mem, decide_eq_false_iff_not] at this
    exact this ha
  · intro q hq
    rcases List.mem_append.mp hq with hq | hq
    · exact h1 q hq
    · exact h2 q (List.mem_filter.mp hq).1
  · by_cases hm : q.1 ∈ t1.map (·.1)
    · obtain ⟨p, hp, e⟩ := List.mem_map.mp hm
      have e2 := hf q.1 p.2 q.2 (e ▸ h1 p hp) (h2 q hq)
      have : p = q := Prod.ext e e2
      exact List.mem_append.mpr (.inl (this ▸ hp))
    · refine List.mem_append.mpr (.inr (List.mem_filter.mpr ⟨hq, ?_⟩))
      simpa only [Bool.not_eq_true', List.contains_eq_mem, decide_eq_false_iff_not] using hm
theorem RDA.led (hf : ∀ a o o', H a o → H a o' → o = o') : (∀ {v : Value} {d : Dat}, RD H B v d → ∃ t : Ld, (t.map (·.1)).Nodup ∧ (∀ q ∈ t, H q.1 q.2) ∧ RD (fun a o => (a, o) ∈ t) B v d) ∧
    (∀ {vs : List Value} {ds : List Dat}, RA H B vs ds → ∃ t : Ld, (t.map (·.1)).Nodup ∧ (∀ q ∈ t, H q.1 q.2) ∧ RA (fun a o => (a, o) ∈ t) B vs ds) := by
  have c0 : ∀ {v : Value} {d : Dat}, RD (fun a o => (a, o) ∈ ([] : Ld)) B v d → ∃ t : Ld, (t.map (·.1)).Nodup ∧ (∀ q ∈ t, H q.1 q.2) ∧ RD (fun a o => (a, o) ∈ t) B v d := fun R => ⟨[], List.nodup_nil, (fun _ h => nomatch h), R⟩
  have c1 : ∀ {a : Addr} {o : Obj} {vs : List Value} {ds : List Dat}, H a o → (∃ t : Ld, (t.map (·.1)).Nodup ∧ (∀ q ∈ t, H q.1 q.2) ∧ RA (fun a o => (a, o) ∈ t) B vs ds) → ∃ t : Ld, (t.map (·.1)).Nodup ∧ (∀ q ∈ t, H q.1 q.2) ∧ (a, o) ∈ t ∧ RA (fun a o => (a, o) ∈ t) B vs ds := by
    rintro a o vs ds h ⟨t, n1, h1, q⟩
    obtain ⟨t', n2, h2, s1, s2⟩ := led_union hf n1 (t2 := [(a, o)]) (List.nodup_cons.mpr ⟨(fun h => nomatch h), List.nodup_nil⟩) h1 (fun q hq => by rw [List.mem_singleton.mp hq]; exact h)
    exact ⟨t', n2, h2, s2 _ (.head _), q.mono (fun a o hm => s1 _ hm) (Nat.le_refl _)⟩
  have c2 : ∀ {a : Addr} {vs : List Value} {n : Nat} {ds : List Dat}, H a (tupO vs n) → RA H B vs ds → (∃ t : Ld, (t.map (·.1)).Nodup ∧ (∀ q ∈ t, H q.1 q.2) ∧ RA (fun a o => (a, o) ∈ t) B vs ds) → ∃ t : Ld, (t.map (·.1)).Nodup ∧ (∀ q ∈ t, H q.1 q.2) ∧ RD (fun a o => (a, o) ∈ t) B (.ref a) (.tuple ds) := by
    intro a vs n ds h _ ih
    obtain ⟨t, a1, a2, a3, a4⟩ := c1 h ih
    exact ⟨t, a1, a2, .tuple a3 a4⟩
  have c3 : ∀ {a : Addr} {o : Obj} {vs : List Value} {ds : List Dat}, H a o → IsLst o vs → RA H B vs ds → (∃ t : Ld, (t.map (·.1)).Nodup ∧ (∀ q ∈ t, H q.1 q.2) ∧ RA (fun a o => (a, o) ∈ t) B vs ds) → ∃ t : Ld, (t.map (·.1)).Nodup ∧ (∀ q ∈ t, H q.1 q.2) ∧ RD (fun a o => (a, o) ∈ t) B (.ref a) (.list ds) := by
    intro a o vs ds h hl _ ih
    obtain ⟨t, a1, a2, a3, a4⟩ := c1 h ih
    exact ⟨t, a1, a2, .list a3 hl a4⟩
  have c4 : ∀ {v : Value} {vs : List Value} {d : Dat} {ds : List Dat}, RD H B v d → RA H B vs ds → (∃ t : Ld, (t.map (·.1)).Nodup ∧ (∀ q ∈ t, H q.1 q.2) ∧ RD (fun a o => (a, o) ∈ t) B v d) → (∃ t : Ld, (t.map (·.1)).Nodup ∧ (∀ q ∈ t, H q.1 q.2) ∧ RA (fun a o => (a, o) ∈ t) B vs ds) → ∃ t : Ld, (t.map (·.1)).Nodup ∧ (∀ q ∈ t, H q.1 q.2) ∧ RA (fun a o => (a, o) ∈ t) B (v :: vs) (d :: ds) := by
    rintro v vs d ds _ _ ⟨t1, n1, h1, q1⟩ ⟨t2, n2, h2, q2⟩
    obtain ⟨t', n3, h3, s1, s2⟩ := led_union hf n1 n2 h1 h2
    exact ⟨t', n3, h3, .cons (q1.mono (fun a o hm => s1 _ hm) (Nat.le_refl _)) (q2.mono (fun a o hm => s2 _ hm) (Nat.le_refl _))⟩
  have c5 : ∃ t : Ld, (t.map (·.1)).Nodup ∧ (∀ q ∈ t, H q.1 q.2) ∧ RA (fun a o => (a, o) ∈ t) B [] [] := ⟨[], List.nodup_nil, (fun _ h => nomatch h), .nil⟩
  exact ⟨fun R => RD.rec (motive_1 := fun v d _ => ∃ t : Ld, (t.map (·.1)).Nodup ∧ (∀ q ∈ t, H q.1 q.2) ∧ RD (fun a o => (a, o) ∈ t) B v d) (motive_2 := fun vs ds _ => ∃ t : Ld, (t.map (·.1)).Nodup ∧ (∀ q ∈ t, H q.1 q.2) ∧ RA (fun a o => (a, o) ∈ t) B vs ds)
      (c0 .none) (fun b => c0 (.bool b)) (fun i t => c0 (.int i t)) (fun x t h1 h2 => c0 (.str x t h1 h2)) c2 c3 c5 c4 R,
    fun R => RA.rec (motive_1 := fun v d _ => ∃ t : Ld, (t.map (·.1)).Nodup ∧ (∀ q ∈ t, H q.1 q.2) ∧ RD (fun a o => (a, o) ∈ t) B v d) (motive_2 := fun vs ds _ => ∃ t : Ld, (t.map (·.1)).Nodup ∧ (∀ q ∈ t, H q.1 q.2) ∧ RA (fun a o => (a, o) ∈ t) B vs ds)
      (c0 .none) (fun b => c0 (.bool b)) (fun i t => c0 (.int i t)) (fun x t h1 h2 => c0 (.str x t h1 h2)) c2 c3 c5 c4 R⟩
theorem RD.led (hf : ∀ a o o', H a o → H a o' → o = o') {v : Value} {d : Dat} (R : RD H B v d) : ∃ t : Ld, (t.map (·.1)).Nodup ∧ (∀ q ∈ t, H q.1 q.2) ∧ RD (fun a o => (a, o) ∈ t) B v d := (RDA.led hf).1 R
theorem RA.led (hf : ∀ a o o', H a o → H a o' → o = o') {vs : List Value} {ds : List Dat} (R : RA H B vs ds) : ∃ t : Ld, (t.map (·.1)).Nodup ∧ (∀ q ∈ t, H q.1 q.2) ∧ RA (fun a o => (a, o) ∈ t) B vs ds := (RDA.led hf).2 R
end
noncomputable abbrev At (h : Heap) : Addr → Obj → Prop := fun a o => h.get? a = some o
noncomputable abbrev In (N : Ld) : Addr → Obj → Prop := fun a o => (a, o) ∈ N
/-- known in a frame: it stood before, or it is of the ledger -/
noncomputable abbrev Kn (g : Heap) (N : Ld) : Addr → Obj → Prop := fun a o => g.get? a = some o ∨ (a, o) ∈ N
section
variable {g h h' : Heap} {L : Addr} {l : List (Str × Value)} {N N' : Ld} {B : Nat} {v : Value} {d : Dat}
theorem Fm.at (F : Fm g L l N h) {a : Addr} {o : Obj} (k : Kn g N a o) : h.get? a = some o := k.elim (F.keep a o) fun hm => (F.led _ hm).1
theorem new_fun (a : Addr) (o o' : Obj) (x : New h h' a o) (y : New h h' a o') : o = o' := Option.some.inj (x.2.symm.trans y.2)
/-- what a call has made goes into the ledger -/
theorem Fm.made (F : Fm g L l N h) (k : Kp h h') (R : RD (New h h') B v d) : ∃ t : Ld, Fm g L l (N ++ t) h' ∧ RD (In t) B v d := by
  obtain ⟨t, n, hn, r⟩ := R.led (fun a o o' => new_fun a o o')
  exact ⟨t, F.app k hn n, r⟩
theorem kpx {W : List Addr} (k : KpX W h h') (hw : W = [] := by rfl) : Kp h h' := fun b o e => k b o (by subst hw; exact fun h => nomatch h) e
theorem RDA.reads : (∀ {v : Value} {d : Dat}, RD (At h) B v d → ∀ n : Nat, kqdOk n d = true → ∃ as, Reads h v (kqdP d) as) ∧ (∀ {vs : List Value} {ds : List Dat}, RA (At h) B vs ds → ∀ n : Nat, (∀ d ∈ ds, kqdOk n d = true) → ∃ as, ReadsAll h vs (kqdPs ds) as) := by
  have c2 : ∀ {a : Addr} {vs : List Value} {k : Nat} {ds : List Dat}, At h a (tupO vs k) → RA (At h) B vs ds → (∀ n : Nat, (∀ d ∈ ds, kqdOk n d = true) → ∃ as, ReadsAll h vs (kqdPs ds) as) → ∀ n : Nat, kqdOk n (.tuple ds) = true → ∃ as, Reads h (.ref a) (kqdP (.tuple ds)) as := by
    intro a vs k ds hm _ ih n hk
    cases n with
    | zero => simp [kqdOk] at hk
    | succ n =>
      obtain ⟨as, q⟩ := ih n (by simpa [kqdOk] using hk)
      rw [kqdP]
      exact ⟨as, reads_tuple_at hm rfl rfl (by simpa using q)⟩
  have c3 : ∀ {a : Addr} {o : Obj} {vs : List Value} {ds : List Dat}, At h a o → IsLst o vs → RA (At h) B vs ds → (∀ n : Nat, (∀ d ∈ ds, kqdOk n d = true) → ∃ as, ReadsAll h vs (kqdPs ds) as) → ∀ n : Nat, kqdOk n (.list ds) = true → ∃ as, Reads h (.ref a) (kqdP (.list ds)) as := by
    intro a o vs ds hm hl _ ih n hk
    cases n with
    | zero => simp [kqdOk] at hk
    | succ n =>
      obtain ⟨as, q⟩ := ih n (by simpa [kqdOk] using hk)
      rw [kqdP]
      obtain ⟨hc, k, hd⟩ := hl
      exact ⟨_, reads_list_at hm hc hd (by simpa using q)⟩
  have c4 : ∀ {v : Value} {vs : List Value} {d : Dat} {ds : List Dat}, RD (At h) B v d → RA (At h) B vs ds → (∀ n : Nat, kqdOk n d = true → ∃ as, Reads h v (kqdP d) as) → (∀ n : Nat, (∀ d ∈ ds, kqdOk n d = true) → ∃ as, ReadsAll h vs (kqdPs ds) as) → ∀ n : Nat, (∀ e ∈ d :: ds, kqdOk n e = true) → ∃ as, ReadsAll h (v :: vs) (kqdPs (d :: ds)) as := by
    intro v vs d ds _ _ i1 i2 n hk
    obtain ⟨as, q⟩ := i1 n (hk _ (.head _))
    obtain ⟨bs, p⟩ := i2 n fun d hm => hk d (.tail _ hm)
    rw [kqdPs]
    exact ⟨_, ReadsAll.cons q p⟩
  exact ⟨fun R => RD.rec (motive_1 := fun v d _ => ∀ n : Nat, kqdOk n d = true → ∃ as, Reads h v (kqdP d) as) (motive_2 := fun vs ds _ => ∀ n : Nat, (∀ d ∈ ds, kqdOk n d = true) → ∃ as, ReadsAll h vs (kqdPs ds) as)
      (fun _ _ => ⟨_, Reads.none⟩) (fun b _ _ => ⟨_, Reads.bool b⟩) (fun i t _ _ => ⟨_, Reads.int i t⟩) (fun x t _ _ _ _ => ⟨_, Reads.str x t⟩) c2 c3 (fun _ _ => ⟨_, ReadsAll.nil⟩) c4 R,
    fun R => RA.rec (motive_1 := fun v d _ => ∀ n : Nat, kqdOk n d = true → ∃ as, Reads h v (kqdP d) as) (motive_2 := fun vs ds _ => ∀ n : Nat, (∀ d ∈ ds, kqdOk n d = true) → ∃ as, ReadsAll h vs (kqdPs ds) as)
      (fun _ _ => ⟨_, Reads.none⟩) (fun b _ _ => ⟨_, Reads.bool b⟩) (fun i t _ _ => ⟨_, Reads.int i t⟩) (fun x t _ _ _ _ => ⟨_, Reads.str x t⟩) c2 c3 (fun _ _ => ⟨_, ReadsAll.nil⟩) c4 R⟩
theorem RD.reads {v : Value} {d : Dat} (n : Nat) (R : RD (At h) B v d) (hk : kqdOk n d = true) : ∃ as, Reads h v (kqdP d) as := RDA.reads.1 R n hk
theorem RA.reads {vs : List Value} {ds : List Dat} (n : Nat) (R : RA (At h) B vs ds) (hk : ∀ d ∈ ds, kqdOk n d = true) : ∃ as, ReadsAll h vs (kqdPs ds) as := RDA.reads.2 R n hk
end
section
variable {prog : Program} {w : World} {A : Around} {E : Value → Shared → Prop} {s : Shared} {B B' : Nat} {a b : Addr} {ds es : List Dat} {Q : Value → Shared → Prop}
open Classical in
open Classical in
end
section
variable {H : Addr → Obj → Prop} {B : Nat} {G : Prop} {v : Value} {vs : List Value} {ds : List Dat} {g h : Heap} {L : Addr} {l b : List (Str × Value)} {N src : Ld} {k : Nat} {x y : Str}
theorem RD.tupE (R : RD H B v (.tuple ds)) (K : ∀ a vs n, v = .ref a → H a (tupO vs n) → RA H B vs ds → G) : G := by cases R with | tuple h r => exact K _ _ _ rfl h r
theorem RD.lisE (R : RD H B v (.list ds)) (K : ∀ a o vs, v = .ref a → H a o → IsLst o vs → RA H B vs ds → G) : G := by cases R with | list h hl r => exact K _ _ _ rfl h hl r
theorem RD.lisR {a : Addr} (R : RD H B (.ref a) (.list ds)) (K : ∀ o vs, H a o → IsLst o vs → RA H B vs ds → G) : G := R.lisE fun _ o vs e h hl r => K o vs (by cases e; exact h) hl r
theorem RD.intE {i : Int} (R : RD H B v (.int i)) (K : ∀ t, v = .int i t → G) : G := by cases R with | int _ t => exact K t rfl
theorem RD.strE {i : Str} (R : RD H B v (.str i)) (K : ∀ t, v = .str i t → t ≠ 0 → t ≤ B → G) : G := by cases R with | str _ t h1 h2 => exact K t rfl h1 h2
theorem RA.two {d e : Dat} (R : RA H B vs [d, e]) (K : ∀ v1 v2, vs = [v1, v2] → RD H B v1 d → RD H B v2 e → G) : G := by
  cases R with | cons r1 R => cases R with | cons r2 R => cases R; exact K _ _ rfl r1 r2
theorem RA.at {α : Type} {f : α → Dat} {xs : List α} (ra : RA H B vs (xs.map f)) (hv : vs[k]? = some v) {z : α} (hx : xs[k]? = some z) : RD H B v (f z) := by
  obtain ⟨d, hd, rv⟩ := ra.get hv
  rw [List.getElem?_map, hx] at hd
  exact Option.some.inj hd ▸ rv
theorem RA.atE {α : Type} {f : α → Dat} {xs : List α} (ra : RA H B vs (xs.map f)) (hv : vs[k]? = some v) (K : ∀ z, xs[k]? = some z → RD H B v (f z) → G) : G := by
  cases hx : xs[k]? with
  | some z => exact K z hx (ra.at hv hx)
  | none =>
    obtain ⟨d, hd, _⟩ := ra.get hv
    rw [List.getElem?_map, hx] at hd; cases hd
noncomputable abbrev pairD (b : Nat × Nat) : Dat := .tuple [.int (b.1 : Int), .int (b.2 : Int)]
noncomputable abbrev partD (p : List Nat) : Dat := .tuple (p.map fun d : Nat => .int (d : Int))
noncomputable abbrev rowD (r : List Nat) : Dat := .list (r.map fun d : Nat => .int (d : Int))
theorem RD.pairE {p : Nat × Nat} (R : RD H B v (pairD p)) (K : ∀ a n tr tc, v = .ref a → H a (tupO [.int (p.1 : Nat) tr, .int (p.2 : Nat) tc] n) → G) : G :=
  R.tupE fun a ws n e h r => r.two fun _ _ ew r1 r2 => r1.intE fun t1 e1 => r2.intE fun t2 e2 => K a n t1 t2 e (by subst ew; subst e1; subst e2; exact h)
theorem RD.partE {p : List Nat} (R : RD H B v (partD p)) (K : ∀ a pvs n, v = .ref a → H a (tupO pvs n) → IntsAre pvs (p.map fun d : Nat => (d : Int)) → G) : G :=
  R.tupE fun a ws n e h r => K a ws n e h (RA.toInts (H := H) (B := B) (by rw [List.map_map]; exact r))
theorem RD.rowE {p : List Nat} (R : RD H B v (rowD p)) (K : ∀ a o pvs, v = .ref a → H a o → IsLst o pvs → IntsAre pvs (p.map fun d : Nat => (d : Int)) → G) : G :=
  R.lisE fun a o ws e h hl r => K a o ws e h hl (RA.toInts (H := H) (B := B) (by rw [List.map_map]; exact r))
theorem RD.ent2 {p q : Str} (R : RD H B v (.tuple [.str p, .str q])) (K : ∀ a w n t, v = .ref a → H a (tupO [.str p t, w] n) → RD H B w (.str q) → G) : G :=
  R.tupE fun a ws n e h r => r.two fun _ w ew r1 r2 => r1.strE fun t e1 _ _ => K a w n t e (by subst ew; subst e1; exact h) r2
theorem opsE {xs : List Nat} {z : Int} (hz : (xs.map fun d : Nat => (d : Int))[k]? = some z) (K : ∀ s : Nat, xs[k]? = some s → z = s → G) : G := by
  rw [List.getElem?_map, Option.map_eq_some_iff] at hz
  obtain ⟨s, hs, e⟩ := hz
  exact K s hs e.symm
theorem drE {P : Value → Prop} {i : Int} (hb : ∃ t v, P v ∧ b = [(y, v), (x, .int i t)]) (F : Fm g L (b ++ l) N h) (K : ∀ t v, P v → Fm g L ((y, v) :: (x, .int i t) :: l) N h → G) : G := by
  obtain ⟨t, v, hv, rfl⟩ := hb
  exact K t v hv F
theorem RA.prs {bs : List (Nat × Nat)} (ra : RA (In src) B vs (bs.map pairD)) (i : Nat) (v : Value) (hv : vs[i]? = some v) : ∃ a n v1 v2, v = .ref a ∧ (a, tupO [v1, v2] n) ∈ src :=
  ra.atE hv fun _ _ R => R.pairE fun a n tr tc e h => ⟨a, n, _, _, e, h⟩
theorem RA.pr2 {bs : List (Nat × Nat)} {p : Nat × Nat} {a : Addr} {v1 v2 : Value} {n : Nat} (ra : RA (In src) B vs (bs.map pairD)) (ss : ∀ q ∈ src, g.get? q.1 = some q.2) (hv : vs[k]? = some (.ref a)) (hs : (a, tupO [v1, v2] n) ∈ src) (hp : bs[k]? = some p)
    (K : ∀ tr tc, v1 = .int (p.1 : Nat) tr → v2 = .int (p.2 : Nat) tc → G) : G :=
  (ra.at hv hp).pairE fun a' n' tr tc e h => by
    have ea : a = a' := by cases e; rfl
    subst ea
    have e2 := (ss _ hs).symm.trans (ss (a, tupO [.int (p.1 : Nat) tr, .int (p.2 : Nat) tc] n') h)
    cases e2; exact K tr tc rfl rfl
/-- a pair drawn into two names -/
theorem drP {g0 : Heap} {bs : List (Nat × Nat)} {p : Nat × Nat} (ra : RA (In src) B vs (bs.map pairD)) (ss : ∀ q ∈ src, g0.get? q.1 = some q.2) (hb : ∃ a n v1 v2, vs[k]? = some (.ref a) ∧ (a, tupO [v1, v2] n) ∈ src ∧ b = [(y, v2), (x, v1)])
    (F : Fm g L (b ++ l) N h) (hp : bs[k]? = some p) (K : ∀ tr tc, Fm g L ((y, .int (p.2 : Nat) tc) :: (x, .int (p.1 : Nat) tr) :: l) N h → G) : G := by
  obtain ⟨a, n, v1, v2, hv, hs, rfl⟩ := hb
  exact ra.pr2 ss hv hs hp fun tr tc e1 e2 => K tr tc (by subst e1; subst e2; exact F)
theorem drI {ns : List Int} (hi : IntsAre vs ns) (hb : ∃ v, vs[k]? = some v ∧ b = [(x, v)]) (F : Fm g L (b ++ l) N h) (K : ∀ z t, ns[k]? = some z → Fm g L ((x, .int z t) :: l) N h → G) : G := by
  obtain ⟨v, hv, rfl⟩ := hb
  exact ((RA.ints (H := fun _ _ => True) (B := 0) hi).atE hv fun z hz R => R.intE fun t e => K z t hz (by subst e; exact F))
end
end Mine
end
section
open PySem PySem.W PySem.Calls PyProof.Rows PySem.Spec
namespace Mine
section
variable {prog : Program} {w : World} {A : Around} {s₀ : Shared} {h g : Heap} {tk : Nat} {l : List (Str × Value)} {N : Ld} {env : Env} {x : Str} {pos : Pos} {v : Value}
  {loose : List Str} {mean : ExcName → Option Value} {mg mb : Str → Option Value} {a b : Int} {t u : Tok} {Q : Value → Shared → Prop} {E : Value → Shared → Prop}
theorem r_add (H : ∀ t tk', tk ≤ tk' → Q (.int (a + b) t) (St s₀ h tk')) : wpAny (model prog w) A (binaryOp .Add (.int a t) (.int b u)) Q E (St s₀ h tk) := by
  with_reducible refine P.add_int (s := St s₀ h tk) ?_
  exact H (tk + 1) (tk + 1) (Nat.le_succ _)
theorem r_iadd (H : ∀ t tk', tk ≤ tk' → Q (.int (a + b) t) (St s₀ h tk')) : wpAny (model prog w) A (inplaceOp .Add (.int a t) (.int b u)) Q E (St s₀ h tk) := by
  with_reducible refine P.iadd_int (s := St s₀ h tk) ?_
  exact H (tk + 1) (tk + 1) (Nat.le_succ _)
theorem r_sub (H : ∀ t tk', tk ≤ tk' → Q (.int (a - b) t) (St s₀ h tk')) : wpAny (model prog w) A (binaryOp .Sub (.int a t) (.int b u)) Q E (St s₀ h tk) := by
  with_reducible refine P.sub_int (s := St s₀ h tk) ?_
  exact H (tk + 1) (tk + 1) (Nat.le_succ _)
theorem r_mul (H : ∀ t tk', tk ≤ tk' → Q (.int (a * b) t) (St s₀ h tk')) (hm : IntMulOk a b) : wpAny (model prog w) A (binaryOp .Mult (.int a t) (.int b u)) Q E (St s₀ h tk) := by
  with_reducible refine P.mul_int (s := St s₀ h tk) ?_ hm
  exact H (tk + 1) (tk + 1) (Nat.le_succ _)
theorem r_neg (H : ∀ t tk', tk ≤ tk' → Q (.int (-a) t) (St s₀ h tk')) : wpAny (model prog w) A (unaryOp .USub (.int a t)) Q E (St s₀ h tk) := by
  with_reducible refine P.neg_int (s := St s₀ h tk) ?_
  exact H (tk + 1) (tk + 1) (Nat.le_succ _)
theorem r_mod (hb : b ≠ 0) (H : ∀ t tk', tk ≤ tk' → Q (.int (a.fmod b) t) (St s₀ h tk')) : wpAny (model prog w) A (binaryOp .Mod (.int a t) (.int b u)) Q E (St s₀ h tk) := by
  with_reducible refine PyProof.Rows.mod_int (s := St s₀ h tk) hb ?_
  exact H (tk + 1) (tk + 1) (Nat.le_succ _)
theorem created_eq {M : Model} {c : Bool} {Q : Bool → Shared → Prop} {s : Shared} (X : (hd.heap_1 M.w.params).In s.heap) (h1 : t ≠ 0) (h2 : u ≠ 0) (hne : t = u → c = true) (H : ∀ r : Bool, (r = true → c = true) → Q r s) : wpAny M A (isSame.created c t u) Q E s := by
  unfold isSame.created
  have e1 : (t == 0) = false := by simpa using h1
  have e2 : (u == 0) = false := by simpa using h2
  simp only [e1, e2, Bool.or_self, Bool.false_eq_true, if_false]
  have nt : ∀ (z : Tok) {Q : Bool → Shared → Prop}, Q false s → wpAny M A (sharingNotTold z) Q E s := fun z Q hq => by
    unfold sharingNotTold
    exact wpAny_bind ((looks_nsIn X (r := none) (by kernel_rfl)).here (wpAny_pure hq))
  by_cases e : t = u
  · subst e
    simp only [beq_self_eq_true, if_true]
    exact wpAny_pure (H true fun _ => hne rfl)
  · have e3 : (t == u) = false := by simpa using e
    simp only [e3, Bool.false_eq_true, if_false]
    cases c with
    | false =>
      simp only [Bool.not_false, if_true]
      exact wpAny_pure (H false fun h => by cases h)
    | true =>
      simp only [Bool.not_true, Bool.false_eq_true, if_false]
      refine wpAny_bind (nt t ?_)
      simp only [Bool.false_eq_true, if_false]
      refine wpAny_bind (nt u ?_)
      simp only [Bool.false_eq_true, if_false]
      refine wpAny_bind (wpAny_rule ?_)
      exact wpAny_bind (wpAny_askSetting (wpAny_pure (H _ fun _ => rfl)))
theorem is_strs {y : Str} {s : Shared} (X : (hd.heap_1 w.params).In s.heap) (h1 : t ≠ 0) (h2 : u ≠ 0) (hne : t = u → x = y) (H : ∀ r : Bool, (r = true → x = y) → Q (.bool r) s) : wpAny (model prog w) A (compareOp .Is (.str x t) (.str y u)) Q E s := by
  show wpAny (model prog w) A (do return .bool (← isSame.created (x == y) t u)) Q E s
  refine wpAny_bind (created_eq X h1 h2 (fun e => by simpa using hne e) fun r hr => wpAny_pure (H r fun e => by simpa using hr e))
end
end Mine
end
section
open PySem PySem.W PySem.Calls PyProof.Rows PySem.Spec
namespace Mine
section
variable {w : World} {loose : List Str} {mean : ExcName → Option Value} {mg mb : Str → Option Value} {h : Heap}
theorem gn_eq (G : Gd w loose mean mg mb h) : mg "eq" = some (.ref 45) := mg_of G.K G.T.g (by kernel_rfl)
theorem ki_eq {P : Params} : keepIn (hd.heap_1 P) (.ref 45) = true := by kernel_rfl
theorem gn_add (G : Gd w loose mean mg mb h) : mg "add" = some (.ref 52) := mg_of G.K G.T.g (by kernel_rfl)
theorem ki_add {P : Params} : keepIn (hd.heap_1 P) (.ref 52) = true := by kernel_rfl
theorem gn_mul (G : Gd w loose mean mg mb h) : mg "mul" = some (.ref 59) := mg_of G.K G.T.g (by kernel_rfl)
theorem ki_mul {P : Params} : keepIn (hd.heap_1 P) (.ref 59) = true := by kernel_rfl
theorem gn_neg (G : Gd w loose mean mg mb h) : mg "neg" = some (.ref 66) := mg_of G.K G.T.g (by kernel_rfl)
theorem ki_neg {P : Params} : keepIn (hd.heap_1 P) (.ref 66) = true := by kernel_rfl
theorem gn_sub (G : Gd w loose mean mg mb h) : mg "sub" = some (.ref 73) := mg_of G.K G.T.g (by kernel_rfl)
theorem ki_sub {P : Params} : keepIn (hd.heap_1 P) (.ref 73) = true := by kernel_rfl
theorem gn_countOf (G : Gd w loose mean mg mb h) : mg "countOf" = some (.ref 80) := mg_of G.K G.T.g (by kernel_rfl)
theorem ki_countOf {P : Params} : keepIn (hd.heap_1 P) (.ref 80) = true := by kernel_rfl
theorem gn_getitem (G : Gd w loose mean mg mb h) : mg "getitem" = some (.ref 87) := mg_of G.K G.T.g (by kernel_rfl)
theorem ki_getitem {P : Params} : keepIn (hd.heap_1 P) (.ref 87) = true := by kernel_rfl
theorem gn_setitem (G : Gd w loose mean mg mb h) : mg "setitem" = some (.ref 94) := mg_of G.K G.T.g (by kernel_rfl)
theorem ki_setitem {P : Params} : keepIn (hd.heap_1 P) (.ref 94) = true := by kernel_rfl
theorem gn_div2n1n (G : Gd w loose mean mg mb h) : mg "_div2n1n" = some (.ref 101) := mg_of G.K G.T.g (by kernel_rfl)
theorem ki_div2n1n {P : Params} : keepIn (hd.heap_1 P) (.ref 101) = true := by kernel_rfl
theorem gn_int2digits (G : Gd w loose mean mg mb h) : mg "_int2digits" = some (.ref 115) := mg_of G.K G.T.g (by kernel_rfl)
theorem ki_int2digits {P : Params} : keepIn (hd.heap_1 P) (.ref 115) = true := by kernel_rfl
theorem gn_digits2int (G : Gd w loose mean mg mb h) : mg "_digits2int" = some (.ref 122) := mg_of G.K G.T.g (by kernel_rfl)
theorem ki_digits2int {P : Params} : keepIn (hd.heap_1 P) (.ref 122) = true := by kernel_rfl
theorem gn_divmod_pos (G : Gd w loose mean mg mb h) : mg "_divmod_pos" = some (.ref 129) := mg_of G.K G.T.g (by kernel_rfl)
theorem ki_divmod_pos {P : Params} : keepIn (hd.heap_1 P) (.ref 129) = true := by kernel_rfl
theorem gn_int_divmod (G : Gd w loose mean mg mb h) : mg "int_divmod" = some (.ref 136) := mg_of G.K G.T.g (by kernel_rfl)
theorem ki_int_divmod {P : Params} : keepIn (hd.heap_1 P) (.ref 136) = true := by kernel_rfl
theorem gn_Headers (G : Gd w loose mean mg mb h) : mg "Headers" = some (.ref 280) := mg_of G.K G.T.g (by kernel_rfl)
theorem ki_Headers {P : Params} : keepIn (hd.heap_1 P) (.ref 280) = true := by kernel_rfl
theorem gn_law_sizes (G : Gd w loose mean mg mb h) : mg "_law_sizes" = some (.ref 289) := mg_of G.K G.T.g (by kernel_rfl)
theorem ki_law_sizes {P : Params} : keepIn (hd.heap_1 P) (.ref 289) = true := by kernel_rfl
theorem gn_law_depth (G : Gd w loose mean mg mb h) : mg "_law_depth" = some (.ref 294) := mg_of G.K G.T.g (by kernel_rfl)
theorem ki_law_depth {P : Params} : keepIn (hd.heap_1 P) (.ref 294) = true := by kernel_rfl
theorem gn_law_put (G : Gd w loose mean mg mb h) : mg "_law_put" = some (.ref 299) := mg_of G.K G.T.g (by kernel_rfl)
theorem ki_law_put {P : Params} : keepIn (hd.heap_1 P) (.ref 299) = true := by kernel_rfl
theorem gn_law_take (G : Gd w loose mean mg mb h) : mg "_law_take" = some (.ref 304) := mg_of G.K G.T.g (by kernel_rfl)
theorem ki_law_take {P : Params} : keepIn (hd.heap_1 P) (.ref 304) = true := by kernel_rfl
theorem gn_law_second (G : Gd w loose mean mg mb h) : mg "_law_second" = some (.ref 311) := mg_of G.K G.T.g (by kernel_rfl)
theorem ki_law_second {P : Params} : keepIn (hd.heap_1 P) (.ref 311) = true := by kernel_rfl
theorem gn_law_counts (G : Gd w loose mean mg mb h) : mg "_law_counts" = some (.ref 316) := mg_of G.K G.T.g (by kernel_rfl)
theorem ki_law_counts {P : Params} : keepIn (hd.heap_1 P) (.ref 316) = true := by kernel_rfl
theorem gn_law_product (G : Gd w loose mean mg mb h) : mg "_law_product" = some (.ref 323) := mg_of G.K G.T.g (by kernel_rfl)
theorem ki_law_product {P : Params} : keepIn (hd.heap_1 P) (.ref 323) = true := by kernel_rfl
theorem gn_DIV_LIMIT (G : Gd w loose mean mg mb h) : mg "_DIV_LIMIT" = some (.int 4000 359) := mg_of G.K G.T.g (by kernel_rfl)
theorem gn_name_re (G : Gd w loose mean mg mb h) : mg "_name_disallowed_re" = some (.ref 146) := mg_of G.K G.T.g (by kernel_rfl)
theorem gn_value_re (G : Gd w loose mean mg mb h) : mg "_value_disallowed_re" = some (.ref 151) := mg_of G.K G.T.g (by kernel_rfl)
theorem bn_len (G : Gd w loose mean mg mb h) : mg "len" = none := mg_none_of G.K G.T.g (by kernel_rfl)
theorem bv_len : bootBuiltins "len" = some (.builtin "len") := by decide +kernel
theorem bn_sum (G : Gd w loose mean mg mb h) : mg "sum" = none := mg_none_of G.K G.T.g (by kernel_rfl)
theorem bv_sum : bootBuiltins "sum" = some (.builtin "sum") := by decide +kernel
theorem bn_sorted (G : Gd w loose mean mg mb h) : mg "sorted" = none := mg_none_of G.K G.T.g (by kernel_rfl)
theorem bv_sorted : bootBuiltins "sorted" = some (.builtin "sorted") := by decide +kernel
theorem bn_max (G : Gd w loose mean mg mb h) : mg "max" = none := mg_none_of G.K G.T.g (by kernel_rfl)
theorem bv_max : bootBuiltins "max" = some (.builtin "max") := by decide +kernel
theorem bn_divmod (G : Gd w loose mean mg mb h) : mg "divmod" = none := mg_none_of G.K G.T.g (by kernel_rfl)
theorem bv_divmod : bootBuiltins "divmod" = some (.builtin "divmod") := by decide +kernel
theorem bn_range (G : Gd w loose mean mg mb h) : mg "range" = none := mg_none_of G.K G.T.g (by kernel_rfl)
theorem bv_range : bootBuiltins "range" = some (.type "range") := by decide +kernel
theorem bn_enumerate (G : Gd w loose mean mg mb h) : mg "enumerate" = none := mg_none_of G.K G.T.g (by kernel_rfl)
theorem bv_enumerate : bootBuiltins "enumerate" = some (.type "enumerate") := by decide +kernel
theorem bn_list (G : Gd w loose mean mg mb h) : mg "list" = none := mg_none_of G.K G.T.g (by kernel_rfl)
theorem bv_list : bootBuiltins "list" = some (.type "list") := by decide +kernel
theorem bn_reversed (G : Gd w loose mean mg mb h) : mg "reversed" = none := mg_none_of G.K G.T.g (by kernel_rfl)
theorem bv_reversed : bootBuiltins "reversed" = some (.type "reversed") := by decide +kernel
theorem bn_type (G : Gd w loose mean mg mb h) : mg "type" = none := mg_none_of G.K G.T.g (by kernel_rfl)
theorem bv_type : bootBuiltins "type" = some (.type "type") := by decide +kernel
theorem bn_str (G : Gd w loose mean mg mb h) : mg "str" = none := mg_none_of G.K G.T.g (by kernel_rfl)
theorem bv_str : bootBuiltins "str" = some (.type "str") := by decide +kernel
end
end Mine
end
section
open PySem PySem.W PySem.Calls PyProof.Rows PySem.Spec
namespace Mine
theorem call_eq {f : Str} {pf pos : Pos} {args : List Expr} {env : Env} : eval (.Call (.Name f pf) args [] pos) env = (do callWith pos (← eval (.Name f pf) env) [] (backTo pos (starEach args env)) (backToKw pos (keywordEach [] env))) := rfl
theorem star_LC {e : Expr} {gs : List Comprehension} {sc : Scope} {pos : Pos} {rest : List Expr} {env : Env} : starEach (.ListComp e gs sc pos :: rest) env = (false, eval (.ListComp e gs sc pos) env) :: starEach rest env := rfl
section
variable {w : World} {A : Around} {s₀ : Shared} {h g : Heap} {tk : Nat} {l : List (Str × Value)} {N : Ld} {env : Env} {x : Str} {pos pf : Pos} {v : Value}
  {loose : List Str} {mean : ExcName → Option Value} {mg mb : Str → Option Value} {Q : Value → Shared → Prop}
noncomputable def CN (w : World) (A : Around) (g : Heap) (s₀ : Shared) (f : Value) (Q : Value → Shared → Prop) (vs : List Value) (s₁ : Shared) : Prop := ∃ h tk', s₁ = St s₀ h tk' ∧ Kp g h ∧ wpAny (model MP w) A (call f vs) Q No (St s₀ h tk')
theorem CN.mk {f : Value} {vs : List Value} (k : Kp g h) (H : wpAny (model MP w) A (call f vs) Q No (St s₀ h tk)) : CN w A g s₀ f Q vs (St s₀ h tk) := ⟨h, tk, rfl, k, H⟩
noncomputable abbrev CB (w : World) (A : Around) (f : Value) (Q : Value → Shared → Prop) (vs : List Value) (s₁ : Shared) : Prop := wpAny (model MP w) A (call f vs) Q No s₁
/-- a call of a def of the top by its name -/
theorem callN {f : Str} {a : Addr} {e : Expr} {rest : List Expr} (F : Fm g env.locals l N h) (G : Gd w loose mean mg mb g) (hm : mg f = some (.ref a)) (hki : keepIn (hd.heap_1 w.params) (.ref a) = true)
    (H : ∀ Q', Le Q Q' → wpAny (model MP w) A (spliced (backTo pos (starEach (e :: rest) env))) (CN w A g s₀ (.ref a) Q') No (St s₀ h tk))
    (he : eval (.Call (.Name f pf) (e :: rest) [] pos) env = (do callWith pos (← eval (.Name f pf) env) [] (backTo pos (starEach (e :: rest) env)) (backToKw pos (keywordEach [] env))) := by exact call_eq)
    (hs : starEach (e :: rest) env = (false, eval e env) :: starEach rest env := by first | exact star_LC | rfl) (hp : (backTo pos (starEach rest env)).any (·.1) = false := by rfl)
    (hk : env.scope.kind = .function := by rfl) (hx : env.kindOf f = some .globalImplicit := by rfl) (hg : env.globals = mainGlobals := by rfl) (hd : (f == ("__debug__" : Str)) = false := by decide) :
    wpAny (model MP w) A (eval (.Call (.Name f pf) (e :: rest) [] pos) env) Q No (St s₀ h tk) := by
  refine Call_ (gl F G hm ?_ hk hx hg hd) he
  refine callWith_K (h₀ := g) (K := Mine.hd.heap_1 w.params) G.K hki ?_ hs hp
  refine wpAny_mono (H Q fun _ _ q => q) (fun vs s₁ q => ?_) fun _ _ q => q
  obtain ⟨h', tk', rfl, kp, hc⟩ := q
  exact ⟨G.K.keeps kp, hc⟩
/-- a call of a built-in function by its name -/
theorem callB {f : Str} {id : String} {e : Expr} {rest : List Expr} (F : Fm g env.locals l N h) (G : Gd w loose mean mg mb g) (hm : mg f = none) (hv : bootBuiltins f = some (.builtin id))
    (H : wpAny (model MP w) A (spliced (backTo pos (starEach (e :: rest) env))) (CB w A (.builtin id) Q) No (St s₀ h tk))
    (hn : f ≠ "__name__" := by decide)
    (he : eval (.Call (.Name f pf) (e :: rest) [] pos) env = (do callWith pos (← eval (.Name f pf) env) [] (backTo pos (starEach (e :: rest) env)) (backToKw pos (keywordEach [] env))) := by exact call_eq)
    (hs : starEach (e :: rest) env = (false, eval e env) :: starEach rest env := by first | exact star_LC | rfl) (hp : (backTo pos (starEach rest env)).any (·.1) = false := by rfl)
    (hk : env.scope.kind = .function := by rfl) (hx : env.kindOf f = some .globalImplicit := by rfl) (hg : env.globals = mainGlobals := by rfl) (hb : env.builtins = builtinsNs := by rfl) (hd : (f == ("__debug__" : Str)) = false := by decide) :
    wpAny (model MP w) A (eval (.Call (.Name f pf) (e :: rest) [] pos) env) Q No (St s₀ h tk) := by
  refine Call_ (bl F G hm hv ?_ hn hk hx hg hb hd) he
  refine callWith_of (P := fun _ => True) (by rw [hs]; show ((false || (backTo pos (starEach rest env)).any (·.1)) || false) = false; rw [hp]; rfl) (fun _ _ => ⟨.machine, .inr (.inl rfl), Looks.now⟩) ?_
  rw [hs] at H ⊢
  exact evalArgs_plain (wpAny_mono H (fun vs s₁ q => ⟨trivial, q⟩) fun _ _ q => q)
/-- a call of a built-in type by its name -/
theorem callT {f : Str} {id : String} {e : Expr} {rest : List Expr} (F : Fm g env.locals l N h) (G : Gd w loose mean mg mb g) (hm : mg f = none) (hv : bootBuiltins f = some (.type id))
    (H : wpAny (model MP w) A (spliced (backTo pos (starEach (e :: rest) env))) (CB w A (.type id) Q) No (St s₀ h tk))
    (hn : f ≠ "__name__" := by decide)
    (he : eval (.Call (.Name f pf) (e :: rest) [] pos) env = (do callWith pos (← eval (.Name f pf) env) [] (backTo pos (starEach (e :: rest) env)) (backToKw pos (keywordEach [] env))) := by exact call_eq)
    (hs : starEach (e :: rest) env = (false, eval e env) :: starEach rest env := by first | exact star_LC | rfl) (hp : (backTo pos (starEach rest env)).any (·.1) = false := by rfl)
    (hk : env.scope.kind = .function := by rfl) (hx : env.kindOf f = some .globalImplicit := by rfl) (hg : env.globals = mainGlobals := by rfl) (hb : env.builtins = builtinsNs := by rfl) (hd : (f == ("__debug__" : Str)) = false := by decide) :
    wpAny (model MP w) A (eval (.Call (.Name f pf) (e :: rest) [] pos) env) Q No (St s₀ h tk) := by
  refine Call_ (bl F G hm hv ?_ hn hk hx hg hb hd) he
  refine callWith_of (P := fun _ => True) (by rw [hs]; show ((false || (backTo pos (starEach rest env)).any (·.1)) || false) = false; rw [hp]; rfl) (fun _ _ => ⟨.machine, .inr (.inl rfl), Looks.now⟩) ?_
  rw [hs] at H ⊢
  exact evalArgs_plain (wpAny_mono H (fun vs s₁ q => ⟨trivial, q⟩) fun _ _ q => q)
end
section
variable {prog : Program} {w : World} {A : Around} {s₀ : Shared} {h g : Heap} {tk : Nat} {l : List (Str × Value)} {N : Ld} {L a : Addr} {vs : List Value} {n : Nat} {v : Value} {k : Int} {t : Tok}
/-- an item of a list -/
theorem itL {Q : Value → Shared → Prop} {value slice : Expr} {o : Obj} (e : h.get? a = some o) (hlo : IsLst o vs) (h0 : 0 ≤ k) (hf : k < 2 ^ 63) (hx : vs[k.toNat]? = some v) (H : Q v (St s₀ h tk))
    (hs : subscripted slice false (.ref a) (.int k t) = operate [.ref a, .int k t] (getItem (.ref a) (.int k t)) := by with_unfolding_all rfl) :
    wpAny (model prog w) A (subscriptTail value slice (.ref a) (.int k t)) Q No (St s₀ h tk) :=
  have hl : (St s₀ h tk).heap.IsList a vs.toArray := hlo.is e
  tail_any hl.typeIs slot_list_getitem.lookup (wpAny_getItem_list hl h0 hf (by simpa using hx) H) hs
/-- an item of a tuple -/
theorem itT {Q : Value → Shared → Prop} {value slice : Expr} {j : Nat} (e : h.get? a = some (tupO vs n)) (hlo : -(2 ^ 63) ≤ k) (hhi : k < 2 ^ 63) (hj : seqIndex? k vs.length = some j) (hx : vs[j]? = some v) (H : Q v (St s₀ h tk))
    (hs : subscripted slice false (.ref a) (.int k t) = operate [.ref a, .int k t] (getItem (.ref a) (.int k t)) := by with_unfolding_all rfl) :
    wpAny (model prog w) A (subscriptTail value slice (.ref a) (.int k t)) Q No (St s₀ h tk) :=
  item_tupleT (s := St s₀ h tk) ⟨_, e, rfl, n, rfl⟩ hlo hhi hj hx H hs
end
end Mine
end
section
open PySem PySem.W PySem.Calls PyProof.Rows PySem.Spec
namespace Mine
section
variable {prog : Program} {w : World} {A : Around} {s₀ : Shared} {h g : Heap} {tk : Nat} {l : List (Str × Value)} {N : Ld} {L a : Addr} {vs : List Value} {n : Nat} {v : Value} {k : Int} {t : Tok} {env : Env} {pos : Pos}
theorem kp_push (h : Heap) (o : Obj) : Kp h (h.push o) := fun _ _ e => Heap.get?_push_of_some _ e
theorem none_size (h : Heap) : h.get? h.objs.size = none := Heap.get?_none_of_le (Nat.le_refl _)
theorem mkT {Q : Value → Shared → Prop} (F : Fm g L l N h) (hsz : vs.length ≤ sizeLine) (H : ∀ a h', h.get? a = none → Kp h h' → Fm g L l ((a, tupO vs 0) :: N) h' → Q (.ref a) (St s₀ h' tk)) :
    wpAny (model prog w) A (newTuple vs) Q No (St s₀ h tk) :=
  wpAny_newTuple (H h.objs.size _ (none_size h) (kp_push h _) (F.push _)) hsz
theorem mkL {Q : Value → Shared → Prop} (F : Fm g L l N h) (hsz : vs.length ≤ sizeLine) (H : ∀ a h', h.get? a = none → Kp h h' → Fm g L l ((a, lisO vs 0) :: N) h' → Q (.ref a) (St s₀ h' tk)) :
    wpAny (model prog w) A (newList vs) Q No (St s₀ h tk) :=
  wpAny_newList (H h.objs.size _ (none_size h) (kp_push h _) (F.push _)) hsz
/-- unpacking a tuple -/
theorem unp {Q : List Value → Shared → Prop} (F : Fm g L l N h) (hh : A.handled = none) (e : h.get? a = some (tupO vs n)) (k : Nat) (hk : k = vs.length) (H : ∀ h', Kp h h' → Fm g L l N h' → Q vs (St s₀ h' tk)) :
    wpAny (model prog w) A (unpackItems (.ref a) k none) Q No (St s₀ h tk) := by
  subst hk
  have ht : IsTup (St s₀ h tk).heap a vs.toArray := ⟨_, e, rfl, n, rfl⟩
  have := unpackItems_tuple (prog := prog) (w := w) (E := No) (Q := Q) hh ht (fun h' he => by
    have kp : Kp h h' := fun b o eb => he b o (Nat.ne_of_lt (Heap.lt_size eb)) eb
    simpa using H h' kp (F.kp kp))
  simpa using this
theorem aio_nil {Q : Unit → Shared → Prop} {s : Shared} {xs : List Value} (H : Q () s) : wpAny (model prog w) A (assignInOrder [] xs) Q No s := wpAny_pure H
theorem aio_cons {Q : Unit → Shared → Prop} {s : Shared} {f : Value → Sem Unit} {fs : List (Value → Sem Unit)} {x : Value} {xs : List Value} (H : wpAny (model prog w) A (f x) (fun _ s' => wpAny (model prog w) A (assignInOrder fs xs) Q No s') No s) :
    wpAny (model prog w) A (assignInOrder (f :: fs) (x :: xs)) Q No s := by
  show wpAny _ A (do holding xs (f x); assignInOrder fs xs) Q No s
  exact wpAny_bind (wpAny_holding H)
noncomputable def A2 (s₀ : Shared) (L : Addr) (x y : Str) (Q : Flow → Shared → Prop) (v1 v2 : Value) (s2 : Shared) : Prop := ∃ g h tk' l N, s2 = St s₀ h tk' ∧ Fm g L l N h ∧ ∀ h' tk'', tk' ≤ tk'' → Fm g L ((x, v1) :: (y, v2) :: l) N h' → Q .next (St s₀ h' tk'')
theorem A2.mk {x y : Str} {v1 v2 : Value} {Q : Flow → Shared → Prop} (F : Fm g L l N h) (H : ∀ h' tk', tk ≤ tk' → Fm g L ((x, v1) :: (y, v2) :: l) N h' → Q .next (St s₀ h' tk')) : A2 s₀ L x y Q v1 v2 (St s₀ h tk) := ⟨g, h, tk, l, N, rfl, F, H⟩
noncomputable def AU (s₀ : Shared) (L : Addr) (x y : Str) (Q : Flow → Shared → Prop) (v : Value) (s1 : Shared) : Prop := ∃ g h tk' l N a v1 v2 n, s1 = St s₀ h tk' ∧ v = .ref a ∧ Fm g L l N h ∧ h.get? a = some (tupO [v1, v2] n) ∧ ∀ h' tk'', tk' ≤ tk'' → Fm g L ((y, v2) :: (x, v1) :: l) N h' → Q .next (St s₀ h' tk'')
theorem AU.mk {x y : Str} {v1 v2 : Value} {n : Nat} {Q : Flow → Shared → Prop} (F : Fm g L l N h) (e : h.get? a = some (tupO [v1, v2] n)) (H : ∀ h' tk', tk ≤ tk' → Fm g L ((y, v2) :: (x, v1) :: l) N h' → Q .next (St s₀ h' tk')) : AU s₀ L x y Q (.ref a) (St s₀ h tk) := ⟨g, h, tk, l, N, a, v1, v2, n, rfl, rfl, F, e, H⟩
/-- x, y = (e1, e2), two local names -/
theorem asg2 {Q : Flow → Shared → Prop} {x y : Str} {e1 e2 : Expr} {k kt : Nat} {tpos vpos px py : Pos} (hh : A.handled = none)
    (H : wpAny (model prog w) A (eval e1 env) (fun v1 s1 => wpAny (model prog w) A (eval e2 env) (A2 s₀ env.locals x y Q v1) No s1) No (St s₀ h tk))
    (hs : swapsWithSole [.Tuple [.Name x px, .Name y py] k tpos] (.Tuple [e1, e2] kt vpos) pos.line env = pure false := by rfl)
    (hw : swappedStores [.Tuple [.Name x px, .Name y py] k tpos] (.Tuple [e1, e2] kt vpos) env = pure (some [x, y]) := by rfl)
    (he : starEach [e1, e2] env = [(false, eval e1 env), (false, eval e2 env)] := by rfl)
    (hk : env.scope.kind = .function := by rfl) (hx : env.kindOf x = some .local := by rfl) (hy : env.kindOf y = some .local := by rfl) :
    wpAny (model prog w) A (exec (.Assign [.Tuple [.Name x px, .Name y py] k tpos] (.Tuple [e1, e2] kt vpos) pos) env) Q No (St s₀ h tk) := by
  refine Assign_Tuple_swapped (names := [x, y]) (Tuple_ ?_) hs hw
  rw [he]
  show wpAny (model prog w) A (spliced [(false, eval e1 env), (false, eval e2 env)]) _ No _
  refine spliced_cons (wpAny_mono H (fun v1 s1 q => spliced_cons (wpAny_mono q (fun v2 s2 q => spliced_nil ?_) fun _ _ q => q)) fun _ _ q => q)
  obtain ⟨g, h, tk', l, N, rfl, F, H⟩ := q
  refine mkT (vs := [v1, v2]) F (show 2 ≤ sizeLine by decide) fun a h' _ _ F' => ?_
  refine unp F' hh (F'.led _ (.head _)).1 2 rfl fun h₂ _ F₂ => ?_
  refine aio_cons (wpAny_bindName (stl F₂ (fun h₃ tk₃ t₃ F₃ => ?_) hk hy))
  refine aio_cons (wpAny_bindName (stl F₃ (fun h₄ tk₄ t₄ F₄ => aio_nil ?_) hk hx))
  exact H h₄ tk₄ (by (first | lia | omega)) (F₄.sub (List.sublist_cons_self _ _))
/-- x, y = (a value that is a pair), two local names -/
theorem asgU {Q : Flow → Shared → Prop} {x y : Str} {value : Expr} {k : Nat} {tpos px py : Pos} (hh : A.handled = none)
    (H : wpAny (model prog w) A (eval value env) (AU s₀ env.locals x y Q) No (St s₀ h tk))
    (hs : swapsWithSole [.Tuple [.Name x px, .Name y py] k tpos] value pos.line env = pure false := by rfl)
    (hw : swappedStores [.Tuple [.Name x px, .Name y py] k tpos] value env = pure none := by rfl)
    (hk : env.scope.kind = .function := by rfl) (hx : env.kindOf x = some .local := by rfl) (hy : env.kindOf y = some .local := by rfl) :
    wpAny (model prog w) A (exec (.Assign [.Tuple [.Name x px, .Name y py] k tpos] value pos) env) Q No (St s₀ h tk) := by
  refine Assign_Tuple (wpAny_mono H (fun v s1 q => ?_) fun _ _ q => q) hs hw
  obtain ⟨g, h, tk', l, N, a, v1, v2, n, rfl, rfl, F, e, H⟩ := q
  rw [assign_Tuple]
  refine wpAny_bind (wpAny_standAt ?_)
  show wpAny _ A (unpack (.ref a) [(false, assign (.Name x px) env), (false, assign (.Name y py) env)]) _ No _
  unfold unpack
  refine wpAny_bind (wpAny_holding ?_)
  show wpAny _ A (unpackItems (.ref a) 2 none) _ No _
  refine unp F hh e 2 rfl fun h₂ _ F₂ => ?_
  refine aio_cons (wpAny_assign_Name (stl F₂ (fun h₃ tk₃ t₃ F₃ => ?_) hk hx))
  refine aio_cons (wpAny_assign_Name (stl F₃ (fun h₄ tk₄ t₄ F₄ => aio_nil ?_) hk hy))
  exact H h₄ tk₄ (by (first | lia | omega)) F₄
theorem lenL {Q : Value → Shared → Prop} {o : Obj} (e : h.get? a = some o) (hlo : IsLst o vs) (hf : vs.length < 2 ^ 62) (H : ∀ t tk', tk ≤ tk' → Q (.int vs.length t) (St s₀ h tk')) : wpAny (model prog w) A (call (.builtin "len") [.ref a]) Q No (St s₀ h tk) :=
  len_list (s := St s₀ h tk) (hlo.is e) (by simp only [List.size_toArray]; (first | lia | omega)) (by
    simp only [List.size_toArray]
    exact H _ (tk + 2) (by (first | lia | omega)))
theorem appL {Q : Value → Shared → Prop} (F : Fm g L l ((a, lisO vs n) :: N) h) (hsz : vs.length ≤ sizeLine) (H : ∀ h' n', Fm g L l ((a, lisO (vs ++ [v]) n') :: N) h' → Q .none (St s₀ h' tk)) :
    wpAny (model prog w) A (call (.builtin "list.append") [.ref a, v]) Q No (St s₀ h tk) := by
  refine wpAny_list_append_plain (s := St s₀ h tk) ⟨n, (F.led _ (.head _)).1⟩ (fun h' hp hs => ?_) (by simpa using hsz)
  obtain ⟨n', e⟩ := hp
  exact H h' n' (F.upd hs (by rw [e]; simp))
theorem mth_append {Q : Value × List Value → Shared → Prop} {pl : Sem Bool} (e : h.get? a = some (lisO vs n)) (H : Q (.builtin "list.append", [.ref a]) (St s₀ h tk)) :
    wpAny (model prog w) A (getMethod (.ref a) "append" pl) Q No (St s₀ h tk) := getMethod_list_append (s := St s₀ h tk) e rfl rfl H
/-- a bound built-in method called with one argument -/
theorem cw1 {id : String} {first : List Value} {e : Expr} {Q : Value → Shared → Prop} {s : Shared}
    (H : wpAny (model prog w) A (eval e env) (fun x s' => wpAny (model prog w) A (call (.builtin id) (first ++ [x])) Q No s') No s) (he : starEach [e] env = [(false, eval e env)] := by rfl) :
    wpAny (model prog w) A (callWith pos (.builtin id) first (backTo pos (starEach [e] env)) []) Q No s := by
  rw [he]
  refine callWith_of (P := fun _ => True) rfl (fun _ _ => ⟨.machine, .inr (.inl rfl), Looks.now⟩) ?_
  refine evalArgs_plain (spliced_cons (wpAny_mono H (fun x s' q => spliced_nil ⟨trivial, q⟩) fun _ _ q => q))
theorem cw0 {id : String} {first : List Value} {Q : Value → Shared → Prop} {s : Shared}
    (H : wpAny (model prog w) A (call (.builtin id) (first ++ [])) Q No s) :
    wpAny (model prog w) A (callWith pos (.builtin id) first (backTo pos (starEach [] env)) []) Q No s := by
  refine callWith_of (P := fun _ => True) rfl (fun _ _ => ⟨.machine, .inr (.inl rfl), Looks.now⟩) ?_
  exact evalArgs_nil3 ⟨trivial, H⟩
end
end Mine
end
section
open PySem PySem.W PySem.Calls PyProof.Rows PySem.Spec
namespace Mine
section
variable {w : World} {s₀ : Shared} {h : Heap} {tk : Nat} {loose : List Str} {mean : ExcName → Option Value} {mg mb : Str → Option Value} {dp un : Nat} {fr : Option (List Env)} {gd : Option (List Code)}
theorem kg_none {g : Heap} (kg : Kp g h) {a : Addr} (ha : h.get? a = none) : g.get? a = none := by
  cases e : g.get? a with
  | none => rfl
  | some o => rw [kg _ _ e] at ha; cases ha
theorem cells_nodup {cm : Str → Option Value} : ∀ {cs : List (Str × Addr)} {Cs : Ld}, CellsAre cm cs Cs → cs.Pairwise (fun x y => x.2 ≠ y.2) → (Cs.map (·.1)).Nodup ∧ ∀ q ∈ Cs, ∃ n, (n, q.1) ∈ cs
  | _, _, .nil, _ => ⟨List.nodup_nil, (fun _ h => nomatch h)⟩
  | _, _, .cons (n := n) (c := c) _ r, hp => by
    obtain ⟨h1, h2⟩ := List.pairwise_cons.mp hp
    obtain ⟨a, b⟩ := cells_nodup r h2
    refine ⟨?_, fun q hq => ?_⟩
    · rw [List.map_cons]
      refine List.nodup_cons.mpr ⟨fun hm => ?_, a⟩
      obtain ⟨p, hp, e⟩ := List.mem_map.mp hm
      obtain ⟨m, hm⟩ := b p hp
      exact h1 _ hm e.symm
    · rcases List.mem_cons.mp hq with rfl | hq
      · exact ⟨n, .head _⟩
      · obtain ⟨m, hm⟩ := b q hq
        exact ⟨m, .tail _ hm⟩
theorem enterC {name qual : Str} {params : Arguments} {body : List Stmt} {scope : Scope} {dV kV doc pm cdv ct oc : Value} {an od : Option Addr} {osl : Array (Option Value)} {f : Addr} {vs : List Value} {kw : List (Str × Value)} {binds : List (Str × Value)} {Q : Value → Shared → Prop} {g : Heap} {N : Ld} (l₀ : List (Str × Value))
    (G : Gd w loose mean mg mb g) (kg : Kp g h) (hN : ∀ q ∈ N, h.get? q.1 = some q.2 ∧ g.get? q.1 = none) (nd : (N.map (·.1)).Nodup)
    (ho : (hd.heap_1 w.params).lookup f = some ⟨oc, od, .func (fnOf name qual params body scope dV kV doc pm an cdv ct), osl⟩) (hcd : codeIn (hd.heap_1 w.params) cdv qual = true) (hroom : dp < recursionLimit)
    (hbind : BindsTo (St s₀ h tk) (fnOf name qual params body scope dV kV doc pm an cdv ct) ⟨vs, kw⟩ binds) (hkind : (binds.all fun y => scope.names.lookup y.1 == some .local || scope.names.lookup y.1 == some .cell) = true)
    (hnd : ((cellsFrom 0 scope.names []).map (·.1)).Nodup) (hl : ∀ L, bindL (envOfC qual scope L f cdv).kindOf binds (fun _ => none) = lk l₀)
    (H : ∀ fr' L h₁ tk₁ Cs, tk ≤ tk₁ → CellsAre (bindC (envOfC qual scope L f cdv).kindOf binds fun _ => none) (cellsFrom (L + 1) scope.names []) Cs → Fm g L l₀ (Cs ++ N) h₁ →
      wpAny (model PySem.Challenge.rw_wc0024_01.row.prog w) (Ar (dp + 1) (un + 3) fr' gd) (execs body (envOfC qual scope L f cdv))
        (fun fl s' => Q (match fl with | .ret v => v | _ => .none) s') No (St s₀ h₁ tk₁))
    (hco : scope.isCoroutine = false) (hgen : scope.isGenerator = false) (hk : scope.kind = .function) : wpAny (model PySem.Challenge.rw_wc0024_01.row.prog w) (Ar dp un fr gd) (call (.ref f) vs kw) Q No (St s₀ h tk) := by
  refine wpAny_call (codeAny_call_function hroom (kg _ _ (G.K _ _ ho)) rfl hco hgen rfl (codeRec_of (G.K.keeps kg) hcd) (hbind _ _ _ _ ?_))
  refine wpAny_with_toks (n := tk + 1) (Nat.le_refl _) (wpAny_newFunctionEnv_cells hk (kindsX hkind _) fun env' he s' x ht => ?_)
  subst he
  refine ⟨((G.T.nolimit.keeps kg)).keeps x.toInCall.keep, codeAny_func ?_⟩
  obtain ⟨h₁, tk', rfl, _⟩ := x.done
  have hk₁ := x.toInCall.keep
  obtain ⟨Cs, NC, Y⟩ := Cl.news (h₀ := (St s₀ h tk).heap) (Nat.le_refl _) fun n c hm => ⟨x.cell n c (lookup_of_mem_nodup (cellsFrom_names scope.names 0 ((St s₀ h tk).heap.objs.size + 1) [] [] rfl ▸ hnd) hm), x.above n c hm⟩
  have ht' : tk + 1 ≤ tk' := ht
  have hL : h.get? h.objs.size = none := Heap.get?_none_of_le (Nat.le_refl _)
  obtain ⟨cn, cm⟩ := cells_nodup Y x.apart
  have F : Fm g h.objs.size l₀ (Cs ++ N) h₁ := by
    refine ⟨?_, fun b o e => hk₁ b o (kg b o e), kg_none kg hL, fun q hq => ?_, ?_⟩
    · have := x.toInCall.ns
      rw [show newEnv scope (St s₀ h tk).heap.objs.size mainGlobals (cellsFrom ((St s₀ h tk).heap.objs.size + 1) scope.names []) (qual ++ ".<locals>.") (some f) cdv none builtinsNs = envOfC qual scope h.objs.size f cdv from rfl] at this
      rw [← hl]; exact this
    · rcases List.mem_append.mp hq with hq | hq
      · exact ⟨(NC q hq).1, (NC q hq).2.1, kg_none kg (NC q hq).2.2⟩
      · refine ⟨hk₁ _ _ (hN q hq).1, (fun z => ?_), (hN q hq).2⟩
        have := (hN q hq).1
        rw [z, hL] at this; cases this
    · rw [List.map_append]
      refine List.nodup_append.mpr ⟨cn, nd, fun a ha b hb e => ?_⟩
      obtain ⟨p, hp, rfl⟩ := List.mem_map.mp ha
      obtain ⟨q, hq, rfl⟩ := List.mem_map.mp hb
      have z := (NC p hp).2.2
      rw [e] at z
      have y : h.get? q.1 = some q.2 := (hN q hq).1
      rw [show (St s₀ h tk).heap = h from rfl, y] at z; cases z
  rw [show ({ St s₀ h tk with heap := h₁, toks := tk' } : Shared) = St s₀ h₁ (tk' - 1) from toks_back ht']
  exact wpAny_mono (H _ h.objs.size h₁ (tk' - 1) Cs (by (first | lia | omega)) Y F) (fun _ _ q => q) fun _ _ q => q.elim
/-- a call of a closure -/
theorem enterX {name qual : Str} {params : Arguments} {body : List Stmt} {scope : Scope} {cl : List (Str × Addr)} {dV kV doc pm cdv ct : Value} {an : Option Addr} {fo : Obj} {f : Addr} {vs : List Value} {binds : List (Str × Value)} {Q : Value → Shared → Prop} {g : Heap} {N : Ld}
    (G : Gd w loose mean mg mb g) (kg : Kp g h) (hN : ∀ q ∈ N, h.get? q.1 = some q.2 ∧ g.get? q.1 = none) (nd : (N.map (·.1)).Nodup)
    (ho : h.get? f = some fo) (hfo : fo.data = .func (fnX name qual params body scope cl dV kV doc pm an cdv ct)) (hcd : h.CodeRec cdv qual) (hroom : dp < recursionLimit)
    (hbind : bindArgs (fnX name qual params body scope cl dV kV doc pm an cdv ct) ⟨vs, []⟩ = pure binds) (hloc : (binds.all fun y => scope.names.lookup y.1 == some .local) = true)
    (H : ∀ fr' L h₁ tk₁, tk ≤ tk₁ → Fm g L binds.reverse N h₁ →
      wpAny (model PySem.Challenge.rw_wc0024_01.row.prog w) (Ar (dp + 1) (un + 3) fr' gd) (execs body (envX qual scope L f cdv cl))
        (fun fl s' => Q (match fl with | .ret v => v | _ => .none) s') No (St s₀ h₁ tk₁))
    (hco : scope.isCoroutine = false) (hgen : scope.isGenerator = false) (hk : scope.kind = .function)
    (hcell : ∀ x ∈ scope.names, x.2 ≠ .cell) : wpAny (model PySem.Challenge.rw_wc0024_01.row.prog w) (Ar dp un fr gd) (call (.ref f) vs) Q No (St s₀ h tk) := by
  refine wpAny_call (codeAny_call_def (fd := fnX name qual params body scope cl dV kV doc pm an cdv ct) hroom ho hfo (G.T.nolimit.keeps kg) hcd rfl (BindsTo.of_eq hbind) hcell (fun y hy => by
    have := List.all_eq_true.mp hloc y hy
    exact beq_iff_eq.mp this) (fun h₁ hns hk₁ => ?_) hco hgen hk)
  have e : St s₀ h₁ (tk + binds.length) = { St s₀ h tk with heap := h₁, toks := (St s₀ h tk).toks + binds.length } := by
    show ({ s₀ with heap := h₁, toks := tk + binds.length + 1 } : Shared) = { s₀ with heap := h₁, toks := tk + 1 + binds.length }
    rw [Nat.add_right_comm]
  have hL : h.get? h.objs.size = none := Heap.get?_none_of_le (Nat.le_refl _)
  rw [← e]
  exact wpAny_mono (H _ h.objs.size h₁ _ (Nat.le_add_right _ _) ⟨hns, fun b o e => hk₁ b o (kg b o e), kg_none kg hL, fun q hq => ⟨hk₁ _ _ (hN q hq).1, (fun z => absurd (hN q hq).1 (by rw [z, hL]; exact fun h => nomatch h)), (hN q hq).2⟩, nd⟩) (fun _ _ q => q) fun _ _ q => q.elim
end
section
variable {prog : Program} {w : World} {A : Around} {s₀ : Shared} {h g : Heap} {tk : Nat} {l : List (Str × Value)} {N : Ld} {env : Env} {x : Str} {pos : Pos} {v : Value} {c : Addr} {o : Obj}
/-- a name of a cell -/
theorem nmC {Q : Value → Shared → Prop} (hc : env.cells.lookup x = some c) (e : h.get? c = some o) (hd : o.data = .cell (some v)) (H : Q v (St s₀ h tk)) (hk : env.scope.kind = .function := by rfl) (hx : env.kindOf x = some .cell := by rfl) (hn : (x == ("__debug__" : Str)) = false := by decide) :
    wpAny (model prog w) A (eval (.Name x pos) env) Q No (St s₀ h tk) := wpAny_Name (wpAny_loadName_cell hk hx hc ⟨o, e, hd⟩ H) hn
theorem nmF {Q : Value → Shared → Prop} (hc : env.cells.lookup x = some c) (e : h.get? c = some o) (hd : o.data = .cell (some v)) (H : Q v (St s₀ h tk)) (hk : env.scope.kind = .function := by rfl) (hx : env.kindOf x = some .free := by rfl) (hn : (x == ("__debug__" : Str)) = false := by decide) (hn2 : (x == ("__classdict__" : Str)) = false := by decide) :
    wpAny (model prog w) A (eval (.Name x pos) env) Q No (St s₀ h tk) := wpAny_Name (wpAny_loadName_free hk hx hc ⟨o, e, hd⟩ H hn2) hn
/-- a store into a cell of the ledger's head -/
theorem stC {Q : Unit → Shared → Prop} {v₀ : Option Value} (hc : env.cells.lookup x = some c) (F : Fm g env.locals l ((c, o) :: N) h) (hd : o.data = .cell v₀) (H : ∀ h' o', o'.data = .cell (some v) → Fm g env.locals l ((c, o') :: N) h' → Q () (St s₀ h' tk)) (hk : env.scope.kind = .function := by rfl) (hx : env.kindOf x = some .cell := by rfl) :
    wpAny (model prog w) A (storeName env x v) Q No (St s₀ h tk) :=
  wpAny_storeName_cell hk hx hc ⟨o, (F.led _ (.head _)).1, hd⟩ fun h' hv hs => by
    obtain ⟨o', e, hd'⟩ := hv
    exact H h' o' hd' (F.upd hs e)
end
end Mine
end
section
open PySem PySem.W PySem.Calls PyProof.Rows PySem.Spec
namespace Mine
/-- an iterator that is drawn into a target -/
structure Dr (prog : Program) (w : World) (A : Around) (env : Env) (target : Expr) (it : Value) (n : Nat) (P : Nat → List (Str × Value) → Prop) (S : Nat → Ld → Prop) (src : Ld) : Prop where
  next : ∀ (g : Heap) (s₀ : Shared) (i : Nat) (Is : Ld) (l : List (Str × Value)) (N : Ld) (h : Heap) (tk : Nat) (Q : Shared → Prop), i < n → S i Is → (∀ q ∈ src, Kn g N q.1 q.2) → Fm g env.locals l (Is ++ N) h →
    (∀ b Is' h' tk', tk ≤ tk' → P i b → S (i + 1) Is' → Fm g env.locals (b ++ l) (Is' ++ N) h' → Q (St s₀ h' tk')) →
    wpAny (model prog w) A (pyNext it) (fun r s₁ => match r with
      | none => False
      | some v => wpAny (model prog w) A (letOwnedTupleGo target it v) (fun _ s₂ => wpAny (model prog w) A (assign target env v) (fun _ s₃ => Q s₃) No s₂) No s₁) No (St s₀ h tk)
  done : ∀ (g : Heap) (s₀ : Shared) (Is : Ld) (l : List (Str × Value)) (N : Ld) (h : Heap) (tk : Nat) (Q : Option Value → Shared → Prop), S n Is → (∀ q ∈ src, Kn g N q.1 q.2) → Fm g env.locals l (Is ++ N) h →
    (∀ h' tk', tk ≤ tk' → Fm g env.locals l N h' → Q none (St s₀ h' tk')) → wpAny (model prog w) A (pyNext it) Q No (St s₀ h tk)
  self : ∀ (g : Heap) (s₀ : Shared) (i : Nat) (Is : Ld) (l : List (Str × Value)) (N : Ld) (h : Heap) (tk : Nat) (Q : Value → Shared → Prop), S i Is → Fm g env.locals l (Is ++ N) h → Q it (St s₀ h tk) →
    wpAny (model prog w) A (pyIter it) Q No (St s₀ h tk)
section
variable {prog : Program} {w : World} {A : Around} {s₀ : Shared} {h g : Heap} {tk : Nat} {l : List (Str × Value)} {N : Ld} {env : Env} {x y : Str} {px py tp : Pos} {v : Value}
theorem asN {Q : Unit → Shared → Prop} (F : Fm g env.locals l N h) (H : ∀ h' tk', tk ≤ tk' → Fm g env.locals ((x, v) :: l) N h' → Q () (St s₀ h' tk')) (hk : env.scope.kind = .function := by rfl) (hx : env.kindOf x = some .local := by rfl) :
    wpAny (model prog w) A (assign (.Name x px) env v) Q No (St s₀ h tk) := wpAny_assign_Name (stl F H hk hx)
theorem asP {Q : Unit → Shared → Prop} {k n : Nat} {a : Addr} {v1 v2 : Value} (hh : A.handled = none) (F : Fm g env.locals l N h) (e : h.get? a = some (tupO [v1, v2] n))
    (H : ∀ h' tk', tk ≤ tk' → Fm g env.locals ((y, v2) :: (x, v1) :: l) N h' → Q () (St s₀ h' tk')) (hk : env.scope.kind = .function := by rfl) (hx : env.kindOf x = some .local := by rfl) (hy : env.kindOf y = some .local := by rfl) :
    wpAny (model prog w) A (assign (.Tuple [.Name x px, .Name y py] k tp) env (.ref a)) Q No (St s₀ h tk) := by
  rw [assign_Tuple]
  refine wpAny_bind (wpAny_standAt ?_)
  show wpAny _ A (unpack (.ref a) [(false, assign (.Name x px) env), (false, assign (.Name y py) env)]) _ No _
  unfold unpack
  refine wpAny_bind (wpAny_holding ?_)
  show wpAny _ A (unpackItems (.ref a) 2 none) _ No _
  refine unp F hh e 2 rfl fun h₂ _ F₂ => ?_
  refine aio_cons (wpAny_assign_Name (stl F₂ (fun h₃ tk₃ t₃ F₃ => ?_) hk hx))
  refine aio_cons (wpAny_assign_Name (stl F₃ (fun h₄ tk₄ t₄ F₄ => aio_nil ?_) hk hy))
  exact H h₄ tk₄ (by (first | lia | omega)) F₄
noncomputable abbrev liO (ax : Addr) (i : Nat) : Obj := { cls := .type "list_iterator", data := .fields #[.ref ax, .int i 0] }
noncomputable def LiIt (I ax : Addr) (i : Nat) (Is : Ld) : Prop := ∃ o, Is = [(I, o)] ∧ o.cls = .type "list_iterator" ∧ o.data = .fields #[.ref ax, .int i 0]
theorem LiIt.at {I ax : Addr} {i : Nat} {Is : Ld} {L : Addr} (q : LiIt I ax i Is) (F : Fm g L l (Is ++ N) h) : h.IsListIter I ax i := by
  obtain ⟨o, rfl, h1, h2⟩ := q
  exact ⟨o, (F.led _ (.head _)).1, h1, h2⟩
theorem kn_app {Is : Ld} {a : Addr} {o : Obj} (k : Kn g N a o) : Kn g (Is ++ N) a o := k.imp id fun hm => List.mem_append.mpr (.inr hm)
theorem LiIt.drop {I ax : Addr} {i : Nat} {Is : Ld} {L : Addr} {h' : Heap} (q : LiIt I ax i Is) (F : Fm g L l (Is ++ N) h) (he : Heap.ExtBut I h h') : Fm g L l N h' := by
  obtain ⟨o, rfl, _⟩ := q
  exact fm_out F fun b o hb e => he b o (by simpa using hb) e
theorem LiIt.next {I ax : Addr} {i : Nat} {Is : Ld} {L : Addr} {h' : Heap} (q : LiIt I ax i Is) (F : Fm g L l (Is ++ N) h) (hs : Heap.SameBut I h h') (e : h'.IsListIter I ax (i + 1)) : ∃ Is', LiIt I ax (i + 1) Is' ∧ Fm g L l (Is' ++ N) h' := by
  obtain ⟨o, rfl, _⟩ := q
  obtain ⟨o', e1, e2, e3⟩ := e
  exact ⟨_, ⟨o', rfl, e2, e3⟩, F.upd hs e1⟩
theorem Dr.list {I ax : Addr} {lo : Obj} {items : List Value} (hlo : IsLst lo items) (hh : A.handled = none) (hk : env.scope.kind = .function := by rfl) (hx : env.kindOf x = some .local := by rfl) :
    Dr prog w A env (.Name x px) (.ref I) items.length (fun i b => ∃ v, items[i]? = some v ∧ b = [(x, v)]) (LiIt I ax) [(ax, lo)] where
  next := fun g s₀ i Is l N h tk Q hi hs hsrc F H => by
    have hl : (St s₀ h tk).heap.IsList ax items.toArray := hlo.is (F.at (kn_app (hsrc _ (.head _))))
    refine wpAny_pyNext_list_item (x := items[i]) (hs.at F) hl (by simp [hi]) fun h' hit' hs' => ?_
    obtain ⟨Is', q', F'⟩ := hs.next F hs' hit'
    refine wpAny_pure ?_
    exact asN F' (fun h₂ tk₂ t₂ F₂ => H [(x, items[i])] Is' h₂ tk₂ t₂ ⟨_, by simp [hi], rfl⟩ q' F₂) hk hx
  done := fun g s₀ Is l N h tk Q hs hsrc F H => by
    have hl : (St s₀ h tk).heap.IsList ax items.toArray := hlo.is (F.at (kn_app (hsrc _ (.head _))))
    exact wpAny_pyNext_list_end hh (hs.at F) hl (by simp) fun h' he => H h' tk (Nat.le_refl _) (hs.drop F he)
  self := fun g s₀ i Is l N h tk Q hs F H => wpAny_pyIter_listiter (s := St s₀ h tk) (hs.at F) H
theorem Dr.pairs {I ax : Addr} {k : Nat} {lo : Obj} {items : List Value} (hlo : IsLst lo items) (hh : A.handled = none) (src : Ld) (hit : ∀ (i : Nat) v, items[i]? = some v → ∃ a n v1 v2, v = .ref a ∧ (a, tupO [v1, v2] n) ∈ src)
    (hk : env.scope.kind = .function := by rfl) (hx : env.kindOf x = some .local := by rfl) (hy : env.kindOf y = some .local := by rfl) :
    Dr prog w A env (.Tuple [.Name x px, .Name y py] k tp) (.ref I) items.length (fun i b => ∃ a n v1 v2, items[i]? = some (.ref a) ∧ (a, tupO [v1, v2] n) ∈ src ∧ b = [(y, v2), (x, v1)]) (LiIt I ax) ((ax, lo) :: src) where
  next := fun g s₀ i Is l N h tk Q hi hs hsrc F H => by
    have hl : (St s₀ h tk).heap.IsList ax items.toArray := hlo.is (F.at (kn_app (hsrc _ (.head _))))
    obtain ⟨a, n, v1, v2, e, hm⟩ := hit i items[i] (by simp [hi])
    refine wpAny_pyNext_list_item (x := items[i]) (hs.at F) hl (by simp [hi]) fun h' hit' hs' => ?_
    obtain ⟨Is', q', F'⟩ := hs.next F hs' hit'
    show wpAny _ A (letOwnedTupleGo _ _ items[i]) _ No _
    rw [e]
    refine wpAny_letOwnedTupleGo_listiter hit' ?_
    show wpAny _ A (assign _ env (.ref a)) _ No (St s₀ h' tk)
    refine asP hh F' (F'.at (kn_app (hsrc _ (.tail _ hm)))) (fun h₂ tk₂ t₂ F₂ => H [(y, v2), (x, v1)] Is' h₂ tk₂ t₂ ⟨a, n, v1, v2, by rw [← e]; simp [hi], hm, rfl⟩ q' F₂) hk hx hy
  done := fun g s₀ Is l N h tk Q hs hsrc F H => by
    have hl : (St s₀ h tk).heap.IsList ax items.toArray := hlo.is (F.at (kn_app (hsrc _ (.head _))))
    exact wpAny_pyNext_list_end hh (hs.at F) hl (by simp) fun h' he => H h' tk (Nat.le_refl _) (hs.drop F he)
  self := fun g s₀ i Is l N h tk Q hs F H => wpAny_pyIter_listiter (s := St s₀ h tk) (hs.at F) H
noncomputable def RgIt (I : Addr) (a c : Int) (n : Nat) (i : Nat) (Is : Ld) : Prop := Is = [(I, { cls := .type "range_iterator", dict := none, data := .fields #[rawInt (a + i * c), rawInt ((n : Int) - i), rawInt c], slots := #[] })]
theorem Dr.range {I : Addr} {a c : Int} {n : Nat} (hh : A.handled = none) (hk : env.scope.kind = .function := by rfl) (hx : env.kindOf x = some .local := by rfl) :
    Dr prog w A env (.Name x px) (.ref I) n (fun i b => ∃ t, b = [(x, .int (a + i * c) t)]) (RgIt I a c n) [] where
  next := fun g s₀ i Is l N h tk Q hi hs hsrc F H => by
    subst hs
    refine wpAny_pyNext_range_item (s := St s₀ h tk) (F.led _ (.head _)).1 (by (first | lia | omega)) fun h' hit' hs' => ?_
    refine wpAny_pure ?_
    have e1 : a + (i : Int) * c + c = a + ((i + 1 : Nat) : Int) * c := by push_cast; rw [Int.add_mul]; (first | lia | omega)
    have e2 : (n : Int) - i - 1 = (n : Int) - ((i + 1 : Nat) : Int) := by push_cast; (first | lia | omega)
    rw [e1, e2] at hit'
    have F' := F.upd hs' hit'
    exact asN (tk := tk + 1) F' (fun h₂ tk₂ t₂ F₂ => H [(x, .int (a + i * c) _)] [_] h₂ tk₂ (by (first | lia | omega)) ⟨_, rfl⟩ rfl F₂) hk hx
  done := fun g s₀ Is l N h tk Q hs hsrc F H => by
    subst hs
    exact wpAny_pyNext_range_end (s := St s₀ h tk) hh (F.led _ (.head _)).1 (by (first | lia | omega)) fun h' he => H h' tk (Nat.le_refl _) (fm_out F fun b o hb e => he b o (by simpa using hb) e)
  self := fun g s₀ i Is l N h tk Q hs F H => by
    subst hs
    exact wpAny_pyIter_rangeiter (s := St s₀ h tk) (F.led _ (.head _)).1 H
noncomputable def EnIt (e it ax : Addr) (i : Nat) (Is : Ld) : Prop := ∃ o old, Is = [(e, { cls := .type "enumerate", dict := none, data := .fields #[.none, .bool false, .ref it, rawInt (i : Int), .none, old], slots := #[] }), (it, o)] ∧ o.cls = .type "list_iterator" ∧ o.data = .fields #[.ref ax, .int i 0]
theorem Dr.enum {e it ax : Addr} {k : Nat} {lo : Obj} {items : List Value} (hlo : IsLst lo items) (hne : e ≠ it) (hh : A.handled = none)
    (hk : env.scope.kind = .function := by rfl) (hx : env.kindOf x = some .local := by rfl) (hy : env.kindOf y = some .local := by rfl) :
    Dr prog w A env (.Tuple [.Name x px, .Name y py] k tp) (.ref e) items.length (fun i b => ∃ t v, items[i]? = some v ∧ b = [(y, v), (x, .int i t)]) (EnIt e it ax) [(ax, lo)] where
  next := fun g s₀ i Is l N h tk Q hi hs hsrc F H => by
    obtain ⟨o, old, rfl, o1, o2⟩ := hs
    have hax := F.at (kn_app (hsrc _ (.head _)))
    have hl : (St s₀ h tk).heap.IsList ax items.toArray := hlo.is hax
    have he := (F.led _ (.head _)).1
    have hi2 := (F.led (it, o) (.tail _ (.head _))).1
    have hlt : e < h.objs.size := Heap.lt_size he
    have hltL : env.locals < h.objs.size := F.ns.lt
    refine wpAny_pyNext_enum_item (s := St s₀ h tk) (x := items[i]) he ⟨o, hi2, o1, o2⟩ hl (by simp [hi]) hne fun h₁ ho₁ hit₁ hT₁ hz₁ hk₁ => ?_
    show wpAny _ A (letOwnedTupleGo _ _ (.ref h.objs.size)) _ No _
    refine wpAny_letOwnedTupleGo_enum ho₁ fun h₂ he₂ hs₂ => ?_
    have hT₂ : h₂.get? h.objs.size = some (tupO [.int i (tk + 1), items[i]] 0) := (hs₂.2 _ (Nat.ne_of_gt hlt)).trans hT₁
    obtain ⟨o', e1, e2, e3⟩ := hit₁
    have e1' : h₂.get? it = some o' := (hs₂.2 it hne.symm).trans e1
    have old₂ : ∀ b o, b ≠ e → b ≠ it → h.get? b = some o → h₂.get? b = some o := fun b o n1 n2 q => (hs₂.2 b n1).trans (hk₁ b o n1 n2 q)
    have F₂ : Fm g env.locals l ([(e, { cls := .type "enumerate", dict := none, data := .fields #[.none, .bool false, .ref it, rawInt ((i + 1 : Nat) : Int), .none, items[i]], slots := #[] }), (it, o')] ++ N) h₂ := by
      have nd := F.nd
      have c1 := (F.led _ (.head _))
      have c2 := (F.led (it, o) (.tail _ (.head _)))
      have nd1 := List.nodup_cons.mp (show (e :: it :: N.map (·.1)).Nodup from F.nd)
      have nd2 := List.nodup_cons.mp nd1.2
      refine ⟨F.ns.at' fun o q => old₂ _ o c1.2.1.symm c2.2.1.symm q, fun b x q => old₂ b x (fun z => ?_) (fun z => ?_) (F.keep b x q), F.Lg, fun q hq => ?_, F.nd⟩
      · rw [z, c1.2.2] at q; cases q
      · rw [z, c2.2.2] at q; cases q
      · rcases List.mem_cons.mp hq with rfl | hq
        · exact ⟨he₂, c1.2⟩
        · rcases List.mem_cons.mp hq with rfl | hq
          · exact ⟨e1', c2.2⟩
          · have B := F.led q (.tail _ (.tail _ hq))
            have hm := List.mem_map_of_mem (f := (·.1)) hq
            exact ⟨old₂ _ _ (fun z => nd1.1 (.tail _ (z ▸ hm))) (fun z => nd2.1 (z ▸ hm)) B.1, B.2⟩
    exact asP (tk := tk + 1) hh F₂ hT₂ (fun h₃ tk₃ t₃ F₃ => H [(y, items[i]), (x, .int i (tk + 1))] _ h₃ tk₃ (by (first | lia | omega)) ⟨_, _, by simp [hi], rfl⟩ ⟨o', _, rfl, e2, e3⟩ F₃) hk hx hy
  done := fun g s₀ Is l N h tk Q hs hsrc F H => by
    obtain ⟨o, old, rfl, o1, o2⟩ := hs
    have hl : (St s₀ h tk).heap.IsList ax items.toArray := hlo.is (F.at (kn_app (hsrc _ (.head _))))
    refine wpAny_pyNext_enum_end (s := St s₀ h tk) hh (F.led _ (.head _)).1 ⟨o, (F.led (it, o) (.tail _ (.head _))).1, o1, o2⟩ hl (by simp) fun h' hx => H h' tk (Nat.le_refl _) ?_
    have F' : Fm g env.locals l ((it, o) :: N) h := F.sub (List.sublist_cons_self _ _)
    exact fm_out F' fun b o hb e => hx b o (by simpa using hb) e
  self := fun g s₀ i Is l N h tk Q hs F H => by
    obtain ⟨o, old, rfl, o1, o2⟩ := hs
    exact wpAny_pyIter_enum (s := St s₀ h tk) (F.led _ (.head _)).1 H
end
end Mine
end
section
open PySem PySem.W PySem.Calls PyProof.Rows PySem.Spec
namespace Mine
noncomputable def NextIs (e elt : Expr) (gens : List Comprehension) (d : Nat) (acc : Value) (env : Env) (nx : Sem Unit) : Prop :=
  (gens[d + 1]? = none ∧ nx = (do let x ← eval elt env; let _ ← call (.builtin "list.append") [acc, x])) ∨
  (∃ t2 i2 f2, gens[d + 1]? = some ⟨t2, i2, f2, 0⟩ ∧ nx = (do
    let x ← eval i2 env
    standAt i2.pos
    let x ← foldedSetIterable i2 env x
    let it ← holding [x] (pyIter x)
    let _ ← runOwn (.compStart e (d + 1) it acc env) env))
theorem compTurn_G {elt target iter : Expr} {ifs : List Expr} {gens : List Comprehension} {scope : Scope} {pos : Pos} {d : Nat} {it acc : Value} {env : Env} {nx : Sem Unit} (hg : gens[d]? = some ⟨target, iter, ifs, 0⟩)
    (hn : NextIs (.ListComp elt gens scope pos) elt gens d acc env nx) :
    compTurn (.ListComp elt gens scope pos) d it acc env = (do
      standAt iter.pos
      match ← pyNext it with
      | none => pure (.done .next)
      | some v =>
        letOwnedTupleGo target it v
        assign target env v
        let mut ok := true
        for c in ifs do
          if ok then ok ← isTrue c env (eval c env)
        if ok then nx
        again (.compLoop (.ListComp elt gens scope pos) d it acc env)) := by
  rcases hn with ⟨h1, rfl⟩ | ⟨t2, i2, f2, h1, rfl⟩
  · unfold compTurn
    simp only [hg, h1]
    rfl
  · unfold compTurn
    simp only [hg, h1]
    simp
    rfl
end Mine
namespace Mine
section
variable {prog : Program} {w : World} {A : Around} {s₀ : Shared} {h g : Heap} {tk : Nat} {l : List (Str × Value)} {N Is : Ld} {env : Env} {x y : Str} {px py tp : Pos} {v : Value} {D : Addr} {vs : List Value} {m : Nat}
  {elt target iter : Expr} {ifs : List Expr} {gens : List Comprehension} {scope : Scope} {pos : Pos} {d n : Nat} {it acc : Value} {nx : Sem Unit} {P : Nat → List (Str × Value) → Prop} {S : Nat → Ld → Prop} {src : Ld}
theorem Fm.midD (F : Fm g env.locals l ((D, lisO vs m) :: (Is ++ N)) h) : Fm g env.locals l (Is ++ (D, lisO vs m) :: N) h := F.perm List.perm_middle.symm
theorem Fm.midI (F : Fm g env.locals l (Is ++ (D, lisO vs m) :: N) h) : Fm g env.locals l ((D, lisO vs m) :: (Is ++ N)) h := F.perm List.perm_middle
/-- what a turn of a comprehension leaves -/
noncomputable def CT (s₀ : Shared) (g : Heap) (L D : Addr) (Is : Ld) (tk : Nat) (J : List (Str × Value) → List Value → Ld → Nat → Prop) (s' : Shared) : Prop :=
  ∃ l vs m N h tk', s' = St s₀ h tk' ∧ tk ≤ tk' ∧ Fm g L l ((D, lisO vs m) :: (Is ++ N)) h ∧ J l vs N tk'
theorem CT.mk {L : Addr} {J : List (Str × Value) → List Value → Ld → Nat → Prop} {tk' : Nat} (t : tk ≤ tk') (F : Fm g L l ((D, lisO vs m) :: (Is ++ N)) h) (j : J l vs N tk') : CT s₀ g L D Is tk J (St s₀ h tk') := ⟨l, vs, m, N, h, tk', rfl, t, F, j⟩
noncomputable abbrev tests (ifs : List Expr) (env : Env) : Sem Bool := forIn ifs true fun c r => if r = true then do let ok ← isTrue c env (eval c env); pure (ForInStep.yield ok) else pure (ForInStep.yield r)
theorem compL {R : Result → Shared → Prop} (J : Nat → List (Str × Value) → List Value → Ld → Nat → Prop) (hg : gens[d]? = some ⟨target, iter, ifs, 0⟩) (hn : NextIs (.ListComp elt gens scope pos) elt gens d (.ref D) env nx)
    (W : Dr prog w A env target it n P S src) (hsrc : ∀ q ∈ src, g.get? q.1 = some q.2) (F : Fm g env.locals l ((D, lisO vs m) :: (Is ++ N)) h) (hs : S 0 Is) (hj : J 0 l vs N tk)
    (turn : ∀ i b l vs m N Is h tkj tk', i < n → P i b → S (i + 1) Is → tk ≤ tkj → tkj ≤ tk' → J i l vs N tkj → Fm g env.locals (b ++ l) ((D, lisO vs m) :: (Is ++ N)) h →
      wpAny (model prog w) A (tests ifs env) (fun ok s₃ => if ok = true then wpAny (model prog w) A nx (fun _ s₄ => CT s₀ g env.locals D Is tk' (J (i + 1)) s₄) No s₃ else CT s₀ g env.locals D Is tk' (J (i + 1)) s₃) No (St s₀ h tk'))
    (fin : ∀ l vs m N h tkj tk', tk ≤ tkj → tkj ≤ tk' → J n l vs N tkj → Fm g env.locals l ((D, lisO vs m) :: N) h → R (.ok .next) (St s₀ h tk')) :
    codeAny (model prog w) A (.compLoop (.ListComp elt gens scope pos) d it (.ref D) env) R (St s₀ h tk) := by
  refine codeAny_loop rfl (fun k s' => ∃ l vs m N Is h tk' i, s' = St s₀ h tk' ∧ tk ≤ tk' ∧ S i Is ∧ Fm g env.locals l ((D, lisO vs m) :: (Is ++ N)) h ∧ J i l vs N tk' ∧ i ≤ n ∧ k = n + 1 - i) ?_ (n + 1)
    ⟨l, vs, m, N, Is, h, tk, 0, rfl, Nat.le_refl _, hs, F, hj, Nat.zero_le _, rfl⟩
  rintro k s' ⟨l, vs, m, N, Is, h, tkj, i, rfl, ht, hs, F, hj, hi, rfl⟩
  show wpAny _ A ((compTurn (.ListComp elt gens scope pos) d it (.ref D) env).onRaise (fun x => do noteFrame x env; theTreesLotGoes x)) _ _ _
  refine wpAny_noted ?_
  rw [compTurn_G hg hn]
  refine wpAny_bind (wpAny_standAt (wpAny_bind ?_))
  by_cases hlt : i < n
  · refine wpAny_mono (W.next g s₀ i Is l ((D, lisO vs m) :: N) h tkj (fun s₃ => wpAny (model prog w) A (tests ifs env) (fun ok s₄ => if ok = true then wpAny (model prog w) A nx (fun _ s₅ => CT s₀ g env.locals D [] tkj (fun l vs N' tk' => ∃ Is' N, N' = Is' ++ N ∧ S (i + 1) Is' ∧ J (i + 1) l vs N tk') s₅) No s₄ else CT s₀ g env.locals D [] tkj (fun l vs N' tk' => ∃ Is' N, N' = Is' ++ N ∧ S (i + 1) Is' ∧ J (i + 1) l vs N tk') s₄) No s₃) hlt hs (fun q hq => .inl (hsrc q hq)) F.midD
      fun b Is' h' tk' t' hP hS F' => ?_) (fun r s₁ q => ?_) fun _ _ q => q.elim
    · refine wpAny_mono (turn i b l vs m N Is' h' tkj tk' hlt hP hS ht t' hj F'.midI) (fun ok s₄ q => ?_) fun _ _ q => q
      have go : ∀ s', CT s₀ g env.locals D Is' tk' (J (i + 1)) s' → CT s₀ g env.locals D [] tkj (fun l vs N' tk' => ∃ Is' N, N' = Is' ++ N ∧ S (i + 1) Is' ∧ J (i + 1) l vs N tk') s' := by
        rintro s' ⟨l, vs, m, N, h, tk2, rfl, t2, F2, j2⟩
        exact ⟨l, vs, m, Is' ++ N, h, tk2, rfl, by (first | lia | omega), F2, Is', N, rfl, hS, j2⟩
      cases ok with
      | true => exact wpAny_mono q (fun _ s₅ q => go s₅ q) fun _ _ q => q
      | false => exact go s₄ q
    · cases r with
      | none => exact q.elim
      | some v =>
        have go : ∀ s', CT s₀ g env.locals D [] tkj (fun l vs N' tk' => ∃ Is' N, N' = Is' ++ N ∧ S (i + 1) Is' ∧ J (i + 1) l vs N tk') s' → ∃ k', k' < n + 1 - i ∧ ∃ l vs m N Is h tk' i, s' = St s₀ h tk' ∧ tk ≤ tk' ∧ S i Is ∧ Fm g env.locals l ((D, lisO vs m) :: (Is ++ N)) h ∧ J i l vs N tk' ∧ i ≤ n ∧ k' = n + 1 - i := by
          rintro s' ⟨l, vs, m, N', h, tk2, rfl, t2, F2, Is2, N2, rfl, hS2, j2⟩
          exact ⟨n + 1 - (i + 1), by (first | lia | omega), l, vs, m, N2, Is2, h, tk2, i + 1, rfl, by (first | lia | omega), hS2, F2, j2, hlt, rfl⟩
        refine wpAny_bind (wpAny_mono q (fun _ s₂ q => wpAny_bind (wpAny_mono q (fun _ s₃ q => wpAny_bind (wpAny_mono q (fun ok s₄ q => ?_) fun _ _ q => q.elim)) fun _ _ q => q.elim)) fun _ _ q => q.elim)
        cases ok with
        | false => exact wpAny_pure ⟨rfl, go _ q⟩
        | true => exact wpAny_bind (wpAny_mono q (fun _ s₅ q => wpAny_pure ⟨rfl, go _ q⟩) fun _ _ q => q.elim)
  · have hin : i = n := by (first | lia | omega)
    subst hin
    refine wpAny_mono (W.done g s₀ Is l ((D, lisO vs m) :: N) h tkj (fun r s' => r = none ∧ R (.ok .next) s') hs (fun q hq => .inl (hsrc q hq)) F.midD fun h' tk' t' F' => ⟨rfl, fin l vs m N h' tkj tk' ht t' hj F'⟩) (fun r s₁ q => ?_) fun _ _ q => q.elim
    obtain ⟨rfl, q⟩ := q
    exact wpAny_pure q
theorem compS {R : Result → Shared → Prop} {i : Nat} (hg : gens[d]? = some ⟨target, iter, ifs, 0⟩) (W : Dr prog w A env target it n P S src) (hs : S i Is) (F : Fm g env.locals l (Is ++ N) h)
    (H : codeAny (model prog w) A (.compLoop (.ListComp elt gens scope pos) d it acc env) R (St s₀ h tk)) :
    codeAny (model prog w) A (.compStart (.ListComp elt gens scope pos) d it acc env) R (St s₀ h tk) := by
  refine codeAny_of_tree ?_
  show wpAny _ _ ((compStart (.ListComp elt gens scope pos) d it acc env).onRaise (fun x => do noteFrame x env; standAt theWindowsPlace)) _ _ _
  refine wpAny_notedAt ?_
  unfold compStart
  have hc : (clausesOf (.ListComp elt gens scope pos))[d]? = some ⟨target, iter, ifs, 0⟩ := hg
  rw [hc]
  show wpAny _ _ (ask >>= _) _ _ _
  refine wpAny_bind (wpAny_askSetting (wpAny_ite ?_))
  have h2 : wpAny (model prog w) A (pyIter it) (fun it' s' => codeAny (model prog w) A (.compLoop (.ListComp elt gens scope pos) d it' acc env) R s') No (St s₀ h tk) := W.self g s₀ i Is l N h tk _ hs F H
  split
  · first
      | exact wpAny_bind (wpAny_pure (wpAny_pure (And.intro rfl H)))
      | exact wpAny_pure (And.intro rfl H)
  · first
      | exact wpAny_bind (wpAny_rule (wpAny_bind (wpAny_standAt (wpAny_bind (wpAny_mono h2 (fun it' s' h' => wpAny_pure (And.intro rfl h')) fun _ _ x => x.elim)))))
      | (refine wpAny_bind (wpAny_rule ?_); show wpAny _ _ (standAt iter.pos >>= _) _ _ _; exact wpAny_bind (wpAny_standAt (wpAny_bind (wpAny_mono h2 (fun it' s' h' => wpAny_pure (And.intro rfl h')) fun _ _ x => x.elim))))
noncomputable def ER (s₀ : Shared) (g : Heap) (L D : Addr) (Q : Unit → Shared → Prop) (x : Value) (s' : Shared) : Prop := ∃ l vs m N h tk, s' = St s₀ h tk ∧ Fm g L l ((D, lisO vs m) :: N) h ∧ vs.length ≤ sizeLine ∧ ∀ h' m', Fm g L l ((D, lisO (vs ++ [x]) m') :: N) h' → Q () (St s₀ h' tk)
theorem ER.mk {x : Value} {Q : Unit → Shared → Prop} {L : Addr} (F : Fm g L l ((D, lisO vs m) :: N) h) (z : vs.length ≤ sizeLine) (H : ∀ h' m', Fm g L l ((D, lisO (vs ++ [x]) m') :: N) h' → Q () (St s₀ h' tk)) : ER s₀ g L D Q x (St s₀ h tk) := ⟨l, vs, m, N, h, tk, rfl, F, z, H⟩
theorem emitR {Q : Unit → Shared → Prop} {L : Addr} {s : Shared}
    (H : wpAny (model prog w) A (eval elt env) (ER s₀ g L D Q) No s) :
    wpAny (model prog w) A (do let x ← eval elt env; let _ ← call (.builtin "list.append") [.ref D, x]) Q No s := by
  refine wpAny_bind (wpAny_mono H (fun x s' q => ?_) fun _ _ q => q)
  obtain ⟨l, vs, m, N, h, tk, rfl, F, hz, H⟩ := q
  refine wpAny_bind (appL F hz fun h' m' F' => wpAny_pure (H h' m' F'))
theorem nestR {Q : Unit → Shared → Prop} {i2 : Expr} {e : Expr} {s : Shared}
    (H : wpAny (model prog w) A (eval i2 env) (fun x s₁ => wpAny (model prog w) A (pyIter x) (fun it s₂ => codeAny (model prog w) A (.compStart e (d + 1) it acc env) (fun r s' => match r with | .ok _ => Q () s' | .error _ => False) s₂) No s₁) No s)
    (hs : ∀ x, foldedSetIterable i2 env x = pure x := by intro _; rfl) :
    wpAny (model prog w) A (do
      let x ← eval i2 env
      standAt i2.pos
      let x ← foldedSetIterable i2 env x
      let it ← holding [x] (pyIter x)
      let _ ← runOwn (.compStart e (d + 1) it acc env) env) Q No s := by
  refine wpAny_bind (wpAny_mono H (fun x s₁ q => wpAny_bind (wpAny_standAt (wpAny_bind (wpAny_of_eq (hs x) (wpAny_bind (wpAny_holding (wpAny_mono q (fun it s₂ q => wpAny_bind (wpAny_runOwn (codeAny_mono q fun r s' q => ?_))) fun _ _ q => q))))))) fun _ _ q => q)
  cases r with
  | ok f => exact wpAny_pure q
  | error e => exact q.elim
end
end Mine
end
section
open PySem PySem.W PySem.Calls PyProof.Rows PySem.Spec
namespace Mine
section
variable {prog : Program} {w : World} {A : Around} {s₀ : Shared} {h g : Heap} {tk : Nat} {l : List (Str × Value)} {N Is : Ld} {env : Env} {x y : Str} {px py tp : Pos} {v : Value} {D : Addr} {vs : List Value} {m : Nat}
  {elt target iter : Expr} {ifs : List Expr} {gens : List Comprehension} {scope : Scope} {pos : Pos} {d n : Nat} {it acc : Value} {nx : Sem Unit} {P : Nat → List (Str × Value) → Prop} {S : Nat → Ld → Prop} {src : Ld} {L : Addr}
theorem Fm.off (F : Fm g L l N h) {C : Addr} {h' : Heap} (hs : Heap.SameBut C h h') (hg : g.get? C = none) (hL : C ≠ L) (hN : ∀ q ∈ N, q.1 ≠ C) : Fm g L l N h' :=
  ⟨F.ns.sameBut hs hL.symm, fun b o e => sb_get hs (fun z => by rw [z, hg] at e; cases e) (F.keep b o e), F.Lg, fun q hq => ⟨sb_get hs (hN q hq) (F.led q hq).1, (F.led q hq).2⟩, F.nd⟩
/-- the frame of a comprehension -/
noncomputable abbrev cE (scope : Scope) (cl : List (Str × Addr)) (C : Addr) (env : Env) : Env := compEnvC scope cl C env
theorem nfe {cl : List (Str × Addr)} {Q : Env → Shared → Prop} {E : Value → Shared → Prop} {s : Shared}
    (H : Q { scope := scope, locals := s.heap.objs.size, globals := env.globals, cells := cellsFrom (s.heap.objs.size + 1) scope.names cl, qual := env.qual, func := none, code := env.code, frame := env.frame, builtins := env.builtins }
      { s with heap := pushCells (s.heap.push { cls := .type "dict", data := .dict #[] }) scope.names }) :
    wpAny (model prog w) A (newFunctionEnv scope env.globals cl [] env.qual none .none (some env)) Q E s := by
  simp only [newFunctionEnv, Option.isSome_some, if_true]
  refine wpAny_bind (wpAny_alloc ?_)
  refine wpAny_bind (wpAny_layCells _ (fun name kind cells => by cases hkc : kind == NameKind.cell <;> simp) _ _ _ _ ?_)
  rw [show ({ s with heap := s.heap.push { cls := .type "dict", data := .dict #[] } } : Shared).heap.objs.size = s.heap.objs.size + 1 from Heap.size_push ..]
  refine wpAny_bind ?_
  rw [List.forIn_nil]
  exact wpAny_pure (wpAny_pure H)
/-- what is left of a comprehension, once its first source is an iterator -/
noncomputable def CompGo (prog : Program) (w : World) (A : Around) (elt : Expr) (gens : List Comprehension) (scope : Scope) (pos : Pos) (cl : List (Str × Addr)) (env : Env) (it : Value) (use : Option (Value → Sem Unit)) (Q : Value → Shared → Prop) (s₂ : Shared) : Prop :=
  wpAny (model prog w) A (newList []) (fun acc s₃ => wpAny (model prog w) A (newFunctionEnv scope env.globals cl [] env.qual none .none (some env)) (fun cenv s₄ =>
        codeAny (model prog w) A (.compStart (.ListComp elt gens scope pos) 0 it acc { cenv with scope := relabel scope env }) (compPost (model prog w) A No use Q acc cenv.locals) s₄) No s₃) No s₂
theorem compE {rest : List Comprehension} {cl : List (Str × Addr)} {Q : Value → Shared → Prop} {s : Shared}
    (H : wpAny (model prog w) A (eval iter env) (fun x s₁ => wpAny (model prog w) A (pyIter x) (fun it s₂ => CompGo prog w A elt (⟨target, iter, ifs, 0⟩ :: rest) scope pos cl env it none Q s₂) No s₁) No s)
    (hclos : closureFor scope env = pure cl) (hs : ∀ x, foldedSetIterable iter env x = pure x := by intro _; rfl)
    (hkind : scope.kind = .function := by rfl) (hnames : ∀ x ∈ scope.names, x.2 = .local → scope.names.lookup x.1 = some .local := by decide) :
    wpAny (model prog w) A (eval (.ListComp elt (⟨target, iter, ifs, 0⟩ :: rest) scope pos) env) Q No s := by
  rw [eval_ListComp]
  exact wpAny_comprehension_free rfl hs hclos hkind hnames H
theorem compA {rest : List Comprehension} {cl : List (Str × Addr)} {Q : Flow → Shared → Prop} {s : Shared} {spos : Pos}
    (H : wpAny (model prog w) A (eval iter env) (fun x s₁ => wpAny (model prog w) A (pyIter x) (fun it s₂ => CompGo prog w A elt (⟨target, iter, ifs, 0⟩ :: rest) scope pos cl env it (some (assign (.Name y py) env)) (fun _ s' => Q .next s') s₂) No s₁) No s)
    (hclos : closureFor scope env = pure cl) (hsw : swapsWith (.ListComp elt (⟨target, iter, ifs, 0⟩ :: rest) scope pos) (some (.Name y py)) spos.line env = pure true := by rfl)
    (hs : ∀ x, foldedSetIterable iter env x = pure x := by intro _; rfl)
    (hkind : scope.kind = .function := by rfl) (hnames : ∀ x ∈ scope.names, x.2 = .local → scope.names.lookup x.1 = some .local := by decide) :
    wpAny (model prog w) A (exec (.Assign [.Name y py] (.ListComp elt (⟨target, iter, ifs, 0⟩ :: rest) scope pos) spos) env) Q No s := by
  rw [exec_Assign_Name_used _ _ _ _ hsw]
  refine wpAny_bind (wpAny_standAt (wpAny_bind ?_))
  show wpAny _ A (do let _ ← comprehension (.ListComp elt (⟨target, iter, ifs, 0⟩ :: rest) scope pos) scope env _ (newList []) false (eval iter env) (some (assign (.Name y py) env))) _ _ s
  exact wpAny_bind (wpAny_mono (wpAny_comprehension_free (use := some (assign (.Name y py) env)) (Q := fun _ s' => Q .next s') rfl hs hclos hkind hnames H) (fun _ s' hq => wpAny_pure (wpAny_pure hq)) fun _ _ e => e)
end
section
variable {prog : Program} {w : World} {A : Around} {s₀ : Shared} {g : Heap} {tk : Nat} {l : List (Str × Value)} {N Is : Ld} {env : Env} {x y : Str} {px py tp : Pos} {v : Value}
  {elt target iter : Expr} {ifs : List Expr} {rest : List Comprehension} {scope : Scope} {pos : Pos} {n : Nat} {it : Value} {P : Nat → List (Str × Value) → Prop} {S : Nat → Ld → Prop} {src : Ld} {L : Addr} {h₁ h₂ : Heap}
noncomputable abbrev CNext (elt : Expr) (gens : List Comprehension) (scope : Scope) (pos : Pos) (d : Nat) (D : Addr) (env : Env) : Sem Unit → Prop := NextIs (.ListComp elt gens scope pos) elt gens d (.ref D) env
/-- the frame of a comprehension, all its cells told -/
noncomputable abbrev cF (scope : Scope) (cl2 : Addr → List (Str × Addr)) (C : Addr) (env : Env) : Env := compEnvC scope (cl2 C) C env
theorem compGo0 {cl : List (Str × Addr)} {S : Addr → Nat → Ld → Prop} {cl2 : Addr → List (Str × Addr)} {ce : Addr → Ld} {use : Option (Value → Sem Unit)} {Q : Value → Shared → Prop} (J : Nat → List (Str × Value) → List Value → Ld → Nat → Prop) (nx : Addr → Addr → Sem Unit)
    (F : Fm g L l N h₁) (kp : Kp h₁ h₂) (hI : ∀ q ∈ Is, New h₁ h₂ q.1 q.2) (nd : (Is.map (·.1)).Nodup) (W : ∀ C, Dr prog w A (cF scope cl2 C env) target it n P (S C) src) (hsrc : ∀ q ∈ src, h₁.get? q.1 = some q.2) (hs : ∀ C, S C 0 (Is ++ ce C)) (hj : J 0 [] [] [] tk)
    (hn : ∀ C D, CNext elt (⟨target, iter, ifs, 0⟩ :: rest) scope pos 0 D (cF scope cl2 C env) (nx C D))
    (turn : ∀ C D i b l vs m N Is h tkj tk', i < n → P i b → S C (i + 1) Is → tk ≤ tkj → tkj ≤ tk' → J i l vs N tkj → Fm h₁ C (b ++ l) ((D, lisO vs m) :: (Is ++ N)) h →
      wpAny (model prog w) A (tests ifs (cF scope cl2 C env)) (fun ok s₃ => if ok = true then wpAny (model prog w) A (nx C D) (fun _ s₄ => CT s₀ h₁ C D Is tk' (J (i + 1)) s₄) No s₃ else CT s₀ h₁ C D Is tk' (J (i + 1)) s₃) No (St s₀ h tk'))
    (fin : ∀ C D l' vs m N' h tkj tk', tk ≤ tkj → tkj ≤ tk' → J n l' vs N' tkj → Fm h₁ C l' ((D, lisO vs m) :: N') h → compPost (model prog w) A No use Q (.ref D) C (.ok .next) (St s₀ h tk'))
    (hc : ∀ C, cellsFrom (C + 1) scope.names cl = cl2 C) (hp : ∀ h C, h.objs.size = C + 1 → (∀ q ∈ ce C, New h (pushCells h scope.names) q.1 q.2) ∧ ((ce C).map (·.1)).Nodup) :
    CompGo prog w A elt (⟨target, iter, ifs, 0⟩ :: rest) scope pos cl env it use Q (St s₀ h₂ tk) := by
  refine mkL (vs := []) (l := l) (N := N) (F.kp kp) (by show 0 ≤ sizeLine; decide) fun D h₃ hD k₃ F₃ => ?_
  refine nfe ?_
  rw [hc]
  have hz : ((St s₀ h₃ tk).heap.push { cls := .type "dict", data := .dict #[] }).objs.size = h₃.objs.size + 1 := Heap.size_push ..
  obtain ⟨hce, cnd⟩ := hp _ _ hz
  have k₄ : Kp h₃ (pushCells ((St s₀ h₃ tk).heap.push { cls := .type "dict", data := .dict #[] }) scope.names) := fun b o e => pushCells_keeps _ _ b o (Heap.get?_push_of_some _ e)
  have hNs : (pushCells ((St s₀ h₃ tk).heap.push { cls := .type "dict", data := .dict #[] }) scope.names).Ns h₃.objs.size (lk []) := (Heap.Ns.new h₃ (.type "dict")).keeps (pushCells_keeps _ _)
  have hce' : ∀ q ∈ ce h₃.objs.size, h₃.get? q.1 = none ∧ q.1 ≠ h₃.objs.size := fun q hq => ⟨kg_none (kp_push h₃ _) (hce q hq).1, fun z => by
    have := (hce q hq).1
    rw [z, show (St s₀ h₃ tk).heap = h₃ from rfl, Heap.get?_push_size _ rfl] at this; cases this⟩
  generalize pushCells ((St s₀ h₃ tk).heap.push { cls := .type "dict", data := .dict #[] }) scope.names = h₄ at hce k₄ hNs
  show codeAny (model prog w) A (.compStart (.ListComp elt (⟨target, iter, ifs, 0⟩ :: rest) scope pos) 0 it (.ref D) (cF scope cl2 h₃.objs.size env)) (compPost (model prog w) A No use Q (.ref D) h₃.objs.size) (St s₀ h₄ tk)
  have hC : h₃.get? h₃.objs.size = none := none_size h₃
  have hD1 : h₁.get? D = none := kg_none kp hD
  have hC2 : h₂.get? h₃.objs.size = none := kg_none k₃ hC
  have hC1 : h₁.get? h₃.objs.size = none := kg_none kp hC2
  have eD := (F₃.led _ (.head _)).1
  have FC : Fm h₁ h₃.objs.size [] ((D, lisO [] 0) :: ((Is ++ ce h₃.objs.size) ++ [])) h₄ := by
    refine ⟨hNs, fun b o e => k₄ _ _ (k₃ _ _ (kp _ _ e)), hC1, fun q hq => ?_, ?_⟩
    · rw [List.append_nil] at hq
      rcases List.mem_cons.mp hq with rfl | hq
      · exact ⟨k₄ _ _ eD, (fun z => by rw [← z] at hC; rw [eD] at hC; cases hC), hD1⟩
      · rcases List.mem_append.mp hq with hq | hq
        · have e2 := k₃ _ _ (hI q hq).2
          exact ⟨k₄ _ _ e2, (fun z => by rw [← z] at hC; rw [e2] at hC; cases hC), (hI q hq).1⟩
        · exact ⟨(hce q hq).2, (hce' q hq).2, kg_none kp (kg_none k₃ (hce' q hq).1)⟩
    · rw [List.append_nil, List.map_cons, List.map_append]
      refine List.nodup_cons.mpr ⟨fun hm => ?_, List.nodup_append.mpr ⟨nd, cnd, fun a ha b hb e => ?_⟩⟩
      · rcases List.mem_append.mp hm with hm | hm
        · obtain ⟨q, hq, e⟩ := List.mem_map.mp hm
          have := (hI q hq).2
          rw [e, hD] at this; cases this
        · obtain ⟨q, hq, e⟩ := List.mem_map.mp hm
          have := (hce' q hq).1
          rw [e, eD] at this; cases this
      · obtain ⟨p, hp, rfl⟩ := List.mem_map.mp ha
        obtain ⟨q, hq, rfl⟩ := List.mem_map.mp hb
        have := (hce' q hq).1
        rw [← e, k₃ _ _ (hI p hp).2] at this; cases this
  refine compS (N := [(D, lisO [] 0)]) rfl (W _) (hs _) (FC.perm (by rw [List.append_nil]; exact (List.perm_append_singleton _ _).symm)) ?_
  exact compL (g := h₁) (nx := nx h₃.objs.size D) J rfl (hn _ _) (W _) hsrc FC (hs _) hj (fun i b l vs m N Is h tkj tk' => turn _ _ i b l vs m N Is h tkj tk') fun l' vs m N' h tkj tk' t1 t2 hj F' => fin _ _ _ _ _ _ _ _ _ t1 t2 hj F'
/-- a comprehension whose list is the value -/
theorem postV {Q : Value → Shared → Prop} {C D : Addr} {l' : List (Str × Value)} {m : Nat} {vs : List Value} {N' : Ld} {h : Heap} (F : Fm g L l N h₁) (F' : Fm h₁ C l' ((D, lisO vs m) :: N') h)
    (H : ∀ h', Fm g L l (N ++ (D, lisO vs m) :: N') h' → Q (.ref D) (St s₀ h' tk)) : compPost (model prog w) A No none Q (.ref D) C (.ok .next) (St s₀ h tk) :=
  ⟨_, F'.ns, fun h' hs' => H h' (F.app (fun b o e => sb_get hs' (fun z => by rw [z, F'.Lg] at e; cases e) (F'.keep b o e)) (fun q hq => ⟨(F'.led q hq).2.2, sb_get hs' (F'.led q hq).2.1 (F'.led q hq).1⟩) F'.nd)⟩
/-- a comprehension whose list is stored under a local name -/
theorem postA {Q : Value → Shared → Prop} {C D : Addr} {l' : List (Str × Value)} {m : Nat} {vs : List Value} {N' : Ld} {h : Heap} (F : Fm g env.locals l N h₁) (F' : Fm h₁ C l' ((D, lisO vs m) :: N') h)
    (H : ∀ h' tk', tk ≤ tk' → Fm g env.locals ((y, .ref D) :: l) (N ++ (D, lisO vs m) :: N') h' → Q .none (St s₀ h' tk')) (hk : env.scope.kind = .function := by rfl) (hy : env.kindOf y = some .local := by rfl) :
    compPost (model prog w) A No (some (assign (.Name y py) env)) Q (.ref D) C (.ok .next) (St s₀ h tk) := by
  show wpAny _ A (assign (.Name y py) env (.ref D)) _ No _
  have FO : Fm g env.locals l (N ++ (D, lisO vs m) :: N') h := F.app F'.keep (fun q hq => ⟨(F'.led q hq).2.2, (F'.led q hq).1⟩) F'.nd
  have hCL : C ≠ env.locals := F.Lne F'.Lg
  refine wpAny_assign_Name (wpAny_storeName_local hy FO.ns (fun h₂ hn₂ hs₂ => ?_) (by rw [hk]; rfl))
  have F2 := FO.store hn₂ hs₂
  refine ⟨_, F'.ns.sameBut hs₂ hCL, fun h' hs' => ?_⟩
  refine H h' (tk + 1) (by (first | lia | omega)) (F2.off hs' (F.gnone F'.Lg) hCL fun q hq z => ?_)
  rcases List.mem_append.mp hq with hq | hq
  · have := (F.led q hq).1
    rw [z, F'.Lg] at this; cases this
  · exact (F'.led q hq).2.1 z
end
end Mine
end
section
open PySem PySem.W PySem.Calls PyProof.Rows PySem.Spec
namespace Mine
section
variable {prog : Program} {w : World} {A : Around} {s₀ : Shared} {h g : Heap} {tk : Nat} {l : List (Str × Value)} {N Is : Ld} {env : Env} {x y : Str} {px py tp : Pos} {v : Value}
  {elt target iter : Expr} {ifs : List Expr} {rest : List Comprehension} {scope : Scope} {pos : Pos} {n : Nat} {it : Value} {P : Nat → List (Str × Value) → Prop} {S : Nat → Ld → Prop} {src : Ld} {L : Addr} {h₁ h₂ : Heap} {a : Addr}
theorem new_push (h : Heap) (o : Obj) (hf : o.isFreed = false := by rfl) : New h (h.push o) h.objs.size o := ⟨none_size h, Heap.get?_push_size _ hf⟩
theorem itrL {Q : Value → Shared → Prop} {ax : Addr} {lo : Obj} {items : List Value} (e : h.get? ax = some lo) (hlo : IsLst lo items) (H : ∀ I h₂, Kp h h₂ → (∀ q ∈ [(I, liO ax 0)], New h h₂ q.1 q.2) → LiIt I ax 0 [(I, liO ax 0)] → Q (.ref I) (St s₀ h₂ tk)) :
    wpAny (model prog w) A (pyIter (.ref ax)) Q No (St s₀ h tk) :=
  wpAny_pyIter_list (s := St s₀ h tk) (hlo.is e) (H _ _ (kp_push _ _) (fun q hq => by rw [List.mem_singleton.mp hq]; exact new_push _ _) ⟨_, rfl, rfl, rfl⟩)
noncomputable abbrev rgO (a b c : Int) (t u v : Tok) : Obj := { cls := .type "range", dict := none, data := .fields #[.int a t, .int b u, .int c v], slots := #[] }
theorem rg1 {Q : Value → Shared → Prop} {b : Int} {t : Tok} (H : ∀ r h' tk' u v, tk ≤ tk' → Kp h h' → New h h' r (rgO 0 b 1 u t v) → Q (.ref r) (St s₀ h' tk')) : wpAny (model prog w) A (call (.type "range") [.int b t]) Q No (St s₀ h tk) :=
  call_range_1 (s := St s₀ h tk) (H _ _ (tk + 2) _ _ (by (first | lia | omega)) (kp_push _ _) (new_push _ _))
noncomputable abbrev riO (a c : Int) (n i : Nat) : Obj := { cls := .type "range_iterator", dict := none, data := .fields #[rawInt (a + i * c), rawInt ((n : Int) - i), rawInt c], slots := #[] }
theorem itrR {Q : Value → Shared → Prop} {r : Addr} {a b c : Int} {t u v : Tok} (e : h.get? r = some (rgO a b c t u v)) (hsm : Builtin.Range.small a b c = true) (hn : Builtin.Range.rangeSize a b c = (n : Int))
    (H : ∀ I h₂, Kp h h₂ → (∀ q ∈ [(I, riO a c n 0)], New h h₂ q.1 q.2) → RgIt I a c n 0 [(I, riO a c n 0)] → Q (.ref I) (St s₀ h₂ tk)) : wpAny (model prog w) A (pyIter (.ref r)) Q No (St s₀ h tk) := by
  have e1 : riO a c n 0 = { cls := .type "range_iterator", data := .fields #[rawInt a, rawInt (Builtin.Range.rangeSize a b c), rawInt c] } := by
    rw [hn]; simp [riO]
  refine wpAny_pyIter_range (s := St s₀ h tk) e hsm ?_
  rw [← e1]
  exact H _ _ (kp_push _ _) (fun q hq => by rw [List.mem_singleton.mp hq]; exact new_push _ _) rfl
theorem small1 {a b : Int} (ha : -1000000 ≤ a) (ha' : a ≤ 1000000) (hb : -1000000 ≤ b) (hb' : b ≤ 1000000) : Builtin.Range.small a b 1 = true := by
  unfold Builtin.Range.small
  rw [rangeSize_nat]
  have f : ∀ x : Int, -3000000 ≤ x → x ≤ 3000000 → Builtin.Range.rangeFitsLong x = true := fun x h1 h2 => by unfold Builtin.Range.rangeFitsLong; simp; (first | lia | omega)
  rw [f a (by (first | lia | omega)) (by (first | lia | omega)), f b (by (first | lia | omega)) (by (first | lia | omega)), f 1 (by decide) (by decide), f _ (by (first | lia | omega)) (by (first | lia | omega)), f (b + (1 - 1)) (by (first | lia | omega)) (by (first | lia | omega))]
  simp
/-- range(b), drawn from -/
theorem itr1 {Q : Value → Shared → Prop} {r : Addr} {b : Int} {t u v : Tok} (e : h.get? r = some (rgO 0 b 1 t u v)) (hb : b.toNat = n) (hb1 : -1000000 ≤ b) (hb2 : b ≤ 1000000)
    (H : ∀ I h₂, Kp h h₂ → (∀ q ∈ [(I, riO 0 1 n 0)], New h h₂ q.1 q.2) → RgIt I 0 1 n 0 [(I, riO 0 1 n 0)] → Q (.ref I) (St s₀ h₂ tk)) : wpAny (model prog w) A (pyIter (.ref r)) Q No (St s₀ h tk) :=
  itrR e (small1 (by decide) (by decide) hb1 hb2) (by rw [rangeSize_nat, Int.sub_zero, hb]) H
noncomputable def TnD (Q : Flow → Shared → Prop) (s₀ : Shared) (g : Heap) (L : Addr) (Is : Ld) (J : List (Str × Value) → Ld → Nat → Prop) (f : Flow) (s' : Shared) : Prop := match f with
  | .ret r => Q (.ret r) s'
  | .brk => Q .next s'
  | _ => ∃ l N h tk, s' = St s₀ h tk ∧ Fm g L l (Is ++ N) h ∧ J l N tk
theorem TnD.next {Q : Flow → Shared → Prop} {J : List (Str × Value) → Ld → Nat → Prop} (F : Fm g L l (Is ++ N) h) (j : J l N tk) : TnD Q s₀ g L Is J .next (St s₀ h tk) := ⟨l, N, h, tk, rfl, F, j⟩
/-- a for over an iterator that is drawn into its target -/
theorem forD {Q : Flow → Shared → Prop} {body : List Stmt} (J : Nat → List (Str × Value) → Ld → Nat → Prop)
    (W : Dr prog w A env target it n P S src) (F : Fm g env.locals l (Is ++ N) h) (hs : S 0 Is) (hj : J 0 l N tk) (hsrc : ∀ i l N tk, J i l N tk → ∀ q ∈ src, Kn g N q.1 q.2)
    (turn : ∀ i b l N Is h tkj tk' Q', Le (TnD Q s₀ g env.locals Is (J (i + 1))) Q' → i < n → P i b → S (i + 1) Is → tk ≤ tkj → tkj ≤ tk' → J i l N tkj → Fm g env.locals (b ++ l) (Is ++ N) h → wpAny (model prog w) A (execs body env) Q' No (St s₀ h tk'))
    (fin : ∀ l N h tkj tk', tk ≤ tkj → tkj ≤ tk' → J n l N tkj → Fm g env.locals l N h → Q .next (St s₀ h tk')) :
    codeAny (model prog w) A (.forLoop target it body [] env) (fun r s' => match r with | .ok f => Q f s' | .error e => cameBackBy (model prog w) A env No e s') (St s₀ h tk) := by
  refine codeAny_forLoop_any (fun k s' => ∃ l N Is h tk' i, s' = St s₀ h tk' ∧ tk ≤ tk' ∧ S i Is ∧ Fm g env.locals l (Is ++ N) h ∧ J i l N tk' ∧ i ≤ n ∧ k = n + 1 - i) ?_ (n + 1)
    ⟨l, N, Is, h, tk, 0, rfl, Nat.le_refl _, hs, F, hj, Nat.zero_le _, rfl⟩
  rintro k s' ⟨l, N, Is, h, tkj, i, rfl, ht, hs, F, hj, hi, rfl⟩
  by_cases hlt : i < n
  · refine wpAny_mono (W.next g s₀ i Is l N h tkj (fun s₃ => wpAny (model prog w) A (execs body env) (fun f s₄ => match f with
            | .next | .cont => ∃ m, m < n + 1 - i ∧ ∃ l N Is h tk' i, s₄ = St s₀ h tk' ∧ tk ≤ tk' ∧ S i Is ∧ Fm g env.locals l (Is ++ N) h ∧ J i l N tk' ∧ i ≤ n ∧ m = n + 1 - i
            | .brk => Q .next s₄
            | .ret v => Q (.ret v) s₄) No s₃) hlt hs (hsrc _ _ _ _ hj) F fun b Is' h' tk' t' hP hS F' => ?_) (fun r s₁ q => ?_) fun _ _ q => q.elim
    · refine wpAny_mono (wpAny_toks_of (n := tk' + 1) (Nat.le_refl _) (turn i b l N Is' h' tkj tk' _ (fun _ _ q => q) hlt hP hS ht t' hj F')) (fun f s₄ q => ?_) fun _ _ q => q.2.elim
      obtain ⟨qt, q⟩ := q
      have go : (∃ l N h tk, s₄ = St s₀ h tk ∧ Fm g env.locals l (Is' ++ N) h ∧ J (i + 1) l N tk) → ∃ m, m < n + 1 - i ∧ ∃ l N Is h tk' i, s₄ = St s₀ h tk' ∧ tk ≤ tk' ∧ S i Is ∧ Fm g env.locals l (Is ++ N) h ∧ J i l N tk' ∧ i ≤ n ∧ m = n + 1 - i := by
        rintro ⟨l2, N2, h2, tk2, rfl, F2, j2⟩
        have : tk' + 1 ≤ tk2 + 1 := qt
        exact ⟨n + 1 - (i + 1), by (first | lia | omega), l2, N2, Is', h2, tk2, i + 1, rfl, by (first | lia | omega), hS, F2, j2, hlt, rfl⟩
      cases f with
      | ret r => exact q
      | brk => exact q
      | next => exact go q
      | cont => exact go q
    · cases r with
      | none => exact q.elim
      | some v =>
        refine wpAny_mono q (fun _ s₂ q => wpAny_mono q (fun _ s₃ q => wpAny_mono q (fun f s₄ q => ?_) fun _ _ q => q.elim) fun _ _ q => q.elim) fun _ _ q => q.elim
        cases f <;> exact q
  · have hin : i = n := by (first | lia | omega)
    subst hin
    refine wpAny_mono (W.done g s₀ Is l N h tkj (fun r s' => r = none ∧ Q .next s') hs (hsrc _ _ _ _ hj) F fun h' tk' t' F' => ⟨rfl, fin l N h' tkj tk' ht t' hj F'⟩) (fun r s₁ q => ?_) fun _ _ q => q.elim
    obtain ⟨rfl, q⟩ := q
    exact wpAny_execs_nil q
noncomputable def CE (s₀ : Shared) (g : Heap) (C D : Addr) (vs : List Value) (m : Nat) (Is : Ld) (tk : Nat) (J : List Value → Ld → Nat → Prop) (x : Value) (s' : Shared) : Prop := ∃ l N' h' tk'', s' = St s₀ h' tk'' ∧ tk ≤ tk'' ∧ Fm g C l ((D, lisO vs m) :: (Is ++ N')) h' ∧ vs.length ≤ sizeLine ∧ J (vs ++ [x]) N' tk''
theorem CE.mk {C D : Addr} {vs : List Value} {m : Nat} {J : List Value → Ld → Nat → Prop} {x : Value} {tk' : Nat} (t : tk ≤ tk') (F : Fm g C l ((D, lisO vs m) :: (Is ++ N)) h) (z : vs.length ≤ sizeLine) (j : J (vs ++ [x]) N tk') : CE s₀ g C D vs m Is tk J x (St s₀ h tk') := ⟨l, N, h, tk', rfl, t, F, z, j⟩
noncomputable def CS (s₀ : Shared) (g : Heap) (C D : Addr) (vs : List Value) (m : Nat) (Is : Ld) (tk : Nat) (J : List Value → Ld → Nat → Prop) (s' : Shared) : Prop := ∃ l N' h' tk'', s' = St s₀ h' tk'' ∧ tk ≤ tk'' ∧ Fm g C l ((D, lisO vs m) :: (Is ++ N')) h' ∧ J vs N' tk''
theorem CS.mk {C D : Addr} {vs : List Value} {m : Nat} {J : List Value → Ld → Nat → Prop} {tk' : Nat} (t : tk ≤ tk') (F : Fm g C l ((D, lisO vs m) :: (Is ++ N)) h) (j : J vs N tk') : CS s₀ g C D vs m Is tk J (St s₀ h tk') := ⟨l, N, h, tk', rfl, t, F, j⟩
/-- a comprehension of one clause, without cells of its own -/
theorem comp1 {cl : List (Str × Addr)} {use : Option (Value → Sem Unit)} {Q : Value → Shared → Prop} (J : Nat → List Value → Ld → Nat → Prop)
    (F : Fm g L l N h₁) (kp : Kp h₁ h₂) (hI : ∀ q ∈ Is, New h₁ h₂ q.1 q.2) (hs : S 0 Is) (W : ∀ C, Dr prog w A (cE scope cl C env) target it n P S src) (hsrc : ∀ q ∈ src, h₁.get? q.1 = some q.2) (hj : J 0 [] [] tk)
    (turn : ∀ C D i b l vs m N Is h tkj tk', i < n → P i b → tk ≤ tkj → tkj ≤ tk' → J i vs N tkj → Fm h₁ C (b ++ l) ((D, lisO vs m) :: (Is ++ N)) h →
      wpAny (model prog w) A (tests ifs (cE scope cl C env)) (fun ok s₃ => if ok = true then wpAny (model prog w) A (eval elt (cE scope cl C env)) (CE s₀ h₁ C D vs m Is tk' (J (i + 1))) No s₃
        else CS s₀ h₁ C D vs m Is tk' (J (i + 1)) s₃) No (St s₀ h tk'))
    (fin : ∀ C D l' vs m N' h tkj tk', tk ≤ tkj → tkj ≤ tk' → J n vs N' tkj → Fm h₁ C l' ((D, lisO vs m) :: N') h → compPost (model prog w) A No use Q (.ref D) C (.ok .next) (St s₀ h tk'))
    (nd : (Is.map (·.1)).Nodup := by exact List.nodup_cons.mpr ⟨(fun h => nomatch h), List.nodup_nil⟩)
    (hc : ∀ C, cellsFrom (C + 1) scope.names cl = cl := by intro _; rfl) (hp : ∀ h, pushCells h scope.names = h := by intro _; rfl) :
    CompGo prog w A elt [⟨target, iter, ifs, 0⟩] scope pos cl env it use Q (St s₀ h₂ tk) := by
  refine compGo0 (S := fun _ => S) (cl2 := fun _ => cl) (ce := fun _ => []) (fun i _ vs N tk => J i vs N tk) (fun C D => do let x ← eval elt (cE scope cl C env); let _ ← call (.builtin "list.append") [.ref D, x]) F kp hI nd W hsrc (fun _ => by rw [List.append_nil]; exact hs) hj
    (fun C D => .inl ⟨rfl, rfl⟩) (fun C D i b l vs m N Is h tkj tk' hi hP hS t1 t2 hj F' => ?_) fin hc (fun h C _ => ⟨(fun _ hq => nomatch hq), List.nodup_nil⟩)
  refine wpAny_mono (turn C D i b l vs m N Is h tkj tk' hi hP t1 t2 hj F') (fun ok s₃ q => ?_) fun _ _ q => q
  cases ok with
  | true =>
    refine emitR (L := C) (s₀ := s₀) (g := h₁) (wpAny_mono q (fun x s' q => ?_) fun _ _ q => q)
    obtain ⟨l, N', h', tk2, rfl, t3, F2, hz, j2⟩ := q
    exact ⟨l, vs, m, _, h', tk2, rfl, F2, hz, fun h3 m3 F3 => ⟨l, _, m3, N', h3, tk2, rfl, t3, F3, j2⟩⟩
  | false =>
    obtain ⟨l, N', h', tk2, rfl, t3, F2, j2⟩ := q
    exact ⟨l, vs, m, N', h', tk2, rfl, t3, F2, j2⟩
end
theorem lk_nil : lk [] = fun _ => none := by funext y; rfl
theorem bindL_lk (kindOf : Str → Option NameKind) : ∀ (binds l : List (Str × Value)), bindL kindOf binds (lk l) = lk ((binds.filter (fun x => kindOf x.1 == some .local)).reverse ++ l)
  | [], l => rfl
  | (n, v) :: r, l => by
    rw [bindL]
    by_cases hk : kindOf n = some .local
    · rw [if_pos hk, ← lk_cons, bindL_lk kindOf r]
      simp [List.filter_cons, hk]
    · rw [if_neg hk, bindL_lk kindOf r]
      simp [List.filter_cons, hk]
theorem bindL_of {kindOf : Str → Option NameKind} {binds l : List (Str × Value)} (h : (binds.filter (fun x => kindOf x.1 == some .local)).reverse = l := by rfl) : bindL kindOf binds (fun _ => none) = lk l := by
  rw [← lk_nil, bindL_lk, h, List.append_nil]
theorem perm_idx {q : Addr × Obj} (N : Ld) : ∀ k : Nat, N[k]? = some q → N.Perm (q :: N.eraseIdx k) := by
  induction N with
  | nil => intro k h; simp at h
  | cons p N ih =>
    intro k h
    cases k with
    | zero =>
      rw [List.getElem?_cons_zero] at h
      rw [Option.some.inj h]
      exact List.Perm.refl _
    | succ k =>
      rw [List.getElem?_cons_succ] at h
      exact ((ih k h).cons p).trans (List.Perm.swap ..)
theorem Fm.pull {g h : Heap} {L : Addr} {l : List (Str × Value)} {N : Ld} (F : Fm g L l N h) (k : Nat) {q : Addr × Obj} (hq : N[k]? = some q := by rfl) : Fm g L l (q :: N.eraseIdx k) h := F.perm (perm_idx N k hq)
theorem Fm.drop {g h : Heap} {L : Addr} {l : List (Str × Value)} {N : Ld} (F : Fm g L l N h) (k : Nat) : Fm g L l (N.eraseIdx k) h := F.sub (List.eraseIdx_sublist _ _)
theorem Fm.of {g h : Heap} {L : Addr} {l : List (Str × Value)} {N : Ld} (F : Fm g L l N h) {q : Addr × Obj} (hq : q ∈ N) : h.get? q.1 = some q.2 := (F.led q hq).1
/-- a cell that stands -/
noncomputable def Cl (g : Heap) (c : Addr) (v : Value) : Prop := ∃ o, g.get? c = some o ∧ o.data = .cell (some v)
theorem Cl.keeps {g g' : Heap} {c : Addr} {v : Value} (k : Cl g c v) (kp : Kp g g') : Cl g' c v := let ⟨o, e, d⟩ := k; ⟨o, kp _ _ e, d⟩
section
variable {prog : Program} {w : World} {A : Around} {s₀ : Shared} {h g : Heap} {tk : Nat} {l : List (Str × Value)} {N : Ld} {env : Env} {x : Str} {pos : Pos} {v : Value} {c : Addr}
theorem nmCg {Q : Value → Shared → Prop} (F : Fm g env.locals l N h) (hcl : env.cells.lookup x = some c) (K : Cl g c v) (H : Q v (St s₀ h tk)) (hk : env.scope.kind = .function) (hx : env.kindOf x = some .cell) (hn : (x == ("__debug__" : Str)) = false) :
    wpAny (model prog w) A (eval (.Name x pos) env) Q No (St s₀ h tk) := let ⟨_, e, d⟩ := K; nmC hcl (F.keep _ _ e) d H hk hx hn
theorem nmFg {Q : Value → Shared → Prop} (F : Fm g env.locals l N h) (hcl : env.cells.lookup x = some c) (K : Cl g c v) (H : Q v (St s₀ h tk)) (hk : env.scope.kind = .function) (hx : env.kindOf x = some .free) (hn : (x == ("__debug__" : Str)) = false) (hn2 : (x == ("__classdict__" : Str)) = false) :
    wpAny (model prog w) A (eval (.Name x pos) env) Q No (St s₀ h tk) := let ⟨_, e, d⟩ := K; nmF hcl (F.keep _ _ e) d H hk hx hn hn2
/-- what stands becomes the base; W: what may still change -/
theorem Fm.rebase {L : Addr} (F : Fm g L l N h) (W : Ld) (hw : W.Sublist N) : Fm (hideAll h (L :: W.map (·.1))) L l W h where
  ns := F.ns
  keep := hide_kp
  Lg := hideAll_none _ (.head _)
  led := fun q hq => ⟨(F.led q (hw.subset hq)).1, (F.led q (hw.subset hq)).2.1, hideAll_none _ (.tail _ (List.mem_map_of_mem hq))⟩
  nd := F.nd.sublist (hw.map _)
theorem Fm.rkp {L : Addr} (F : Fm g L l N h) (W : Ld) (hw : W.Sublist N) : Kp g (hideAll h (L :: W.map (·.1))) := fun b o e => hideAll_get _ (F.keep _ _ e) fun hm => by
  rcases List.mem_cons.mp hm with rfl | hm
  · rw [F.Lg] at e; cases e
  · obtain ⟨q, hq, rfl⟩ := List.mem_map.mp hm
    rw [(F.led q (hw.subset hq)).2.2] at e; cases e
end
section
variable {g h h' : Heap} {L : Addr} {l : List (Str × Value)} {N : Ld} {tk : Nat}
theorem Fm.rebase2 (W R : Ld) (F : Fm g L l (W ++ R) h) : Fm (hideAll h (L :: W.map (·.1))) L l W h ∧ (∀ q ∈ R, (hideAll h (L :: W.map (·.1))).get? q.1 = some q.2) ∧ Kp g (hideAll h (L :: W.map (·.1))) := by
  refine ⟨F.rebase W (List.sublist_append_left _ _), fun q hq => hideAll_get _ (F.of (List.mem_append.mpr (.inr hq))) fun hm => ?_, F.rkp W (List.sublist_append_left _ _)⟩
  rcases List.mem_cons.mp hm with e | hm
  · exact (F.led q (List.mem_append.mpr (.inr hq))).2.1 e
  · have nd := F.nd
    rw [List.map_append] at nd
    exact (List.nodup_append.mp nd).2.2 _ hm _ (List.mem_map_of_mem hq) rfl
theorem Fm.updX {a : Addr} {o o' : Obj} (F : Fm g L l ((a, o) :: N) h) (k : KpX [a] h h') (e : h'.get? a = some o') : Fm g L l ((a, o') :: N) h' := fm_it F k e
theorem Fm.updX2 {a b : Addr} {o o' p p' : Obj} (F : Fm g L l ((a, o) :: (b, p) :: N) h) (k : KpX [a, b] h h') (e : h'.get? a = some o') (e2 : h'.get? b = some p') : Fm g L l ((a, o') :: (b, p') :: N) h' := by
  have c1 := (F.led _ (.head _))
  have c2 := (F.led (b, p) (.tail _ (.head _)))
  have nd1 := List.nodup_cons.mp (show (a :: b :: N.map (·.1)).Nodup from F.nd)
  have nd2 := List.nodup_cons.mp nd1.2
  have k' : ∀ x o, x ≠ a → x ≠ b → h.get? x = some o → h'.get? x = some o := fun x o h1 h2 => k x o (by simp [h1, h2])
  refine ⟨F.ns.at' fun o q => k' _ o c1.2.1.symm c2.2.1.symm q, fun x o q => k' x o (fun z => ?_) (fun z => ?_) (F.keep x o q), F.Lg, fun q hq => ?_, F.nd⟩
  · rw [z, c1.2.2] at q; cases q
  · rw [z, c2.2.2] at q; cases q
  · rcases List.mem_cons.mp hq with rfl | hq
    · exact ⟨e, c1.2⟩
    · rcases List.mem_cons.mp hq with rfl | hq
      · exact ⟨e2, c2.2⟩
      · have B := F.led q (.tail _ (.tail _ hq))
        have hm := List.mem_map_of_mem (f := (·.1)) hq
        exact ⟨k' _ _ (fun z => nd1.1 (.tail _ (z ▸ hm))) (fun z => nd2.1 (z ▸ hm)) B.1, B.2⟩
end
end Mine
end
section
open PySem PySem.W PySem.Calls PyProof.Rows PySem.Spec
namespace Mine
section
variable {prog : Program} {w : World} {A : Around} {s₀ : Shared} {h g : Heap} {tk : Nat} {l : List (Str × Value)} {N : Ld} {env : Env} {x : Str} {pos px : Pos} {v : Value} {L : Addr}
  {a b n : Int} {t u : Tok} {Q : Value → Shared → Prop} {E : Value → Shared → Prop}
theorem r_shr (hn : 0 ≤ n) (H : ∀ t tk', tk ≤ tk' → Q (.int (a.fdiv (2 ^ n.toNat)) t) (St s₀ h tk')) : wpAny (model prog w) A (binaryOp .RShift (.int a t) (.int n u)) Q E (St s₀ h tk) := by
  with_reducible refine rshift_int (s := St s₀ h tk) hn ?_
  exact H (tk + 1) (tk + 1) (Nat.le_succ _)
theorem r_shl (hn : 0 ≤ n) (hsz : (Builtin.Int.intBits a : Int) + n ≤ 2 ^ 27) (H : ∀ t tk', tk ≤ tk' → Q (.int (a * 2 ^ n.toNat) t) (St s₀ h tk')) : wpAny (model prog w) A (binaryOp .LShift (.int a t) (.int n u)) Q E (St s₀ h tk) := by
  with_reducible refine lshift_int (s := St s₀ h tk) hn hsz ?_
  exact H (tk + 1) (tk + 1) (Nat.le_succ _)
theorem r_xor (H : ∀ t tk', tk ≤ tk' → Q (.int (Builtin.bitXor a b) t) (St s₀ h tk')) : wpAny (model prog w) A (binaryOp .BitXor (.int a t) (.int b u)) Q E (St s₀ h tk) := by
  with_reducible refine xor_int (s := St s₀ h tk) ?_
  exact H (tk + 1) (tk + 1) (Nat.le_succ _)
theorem r_inv (H : ∀ t tk', tk ≤ tk' → Q (.int (-a - 1) t) (St s₀ h tk')) : wpAny (model prog w) A (unaryOp .Invert (.int a t)) Q E (St s₀ h tk) := by
  refine invert_int (s := St s₀ h tk) ?_
  have e : Builtin.bitNot a = -a - 1 := by unfold Builtin.bitNot; cases a <;> simp <;> (first | lia | omega)
  rw [e]
  exact H (tk + 1) (tk + 1) (Nat.le_succ _)
theorem r_fdiv (hb : b ≠ 0) (hlog : b.natAbs.log2 < 9000) (H : ∀ t tk', tk ≤ tk' → Q (.int (a.fdiv b) t) (St s₀ h tk')) : wpAny (model prog w) A (binaryOp .FloorDiv (.int a t) (.int b u)) Q E (St s₀ h tk) := by
  with_reducible refine floordiv_int (s := St s₀ h tk) hb ?_ (Or.inl (PyProof.noPylong_of_log2 hlog))
  exact H (tk + 1) (tk + 1) (Nat.le_succ _)
theorem r_divmod (F : Fm g L l N h) (hb : b ≠ 0) (hlog : b.natAbs.log2 < 9000) (H : ∀ r t1 t2 h' tk', tk ≤ tk' → Fm g L l ((r, tupO [.int (a.fdiv b) t1, .int (a.fmod b) t2] 0) :: N) h' → Q (.ref r) (St s₀ h' tk')) :
    wpAny (model prog w) A (call (.builtin "divmod") [.int a t, .int b u]) Q E (St s₀ h tk) :=
  divmod_int (s := St s₀ h tk) hb (H _ _ _ _ (tk + 2) (by (first | lia | omega)) (F.push _)) (Or.inl (PyProof.noPylong_of_log2 hlog))
theorem r_bl (H : ∀ t tk', tk ≤ tk' → Q (.int (Builtin.Int.intBits a) t) (St s₀ h tk')) : wpAny (model prog w) A (call (.builtin "int.bit_length") ([.int a t] ++ [])) Q E (St s₀ h tk) :=
  call_int_bit_length (s := St s₀ h tk) (H (tk + 1) (tk + 1) (Nat.le_succ _))
/-- a list of one entry, repeated -/
theorem r_rep1 {lx : Addr} {k : Nat} (FM : Fm g L l N h) (e : h.get? lx = some (lisO [v] k)) (hlo : -(2 ^ 63 : Int) ≤ n) (hsz : n.toNat ≤ 2 ^ 24)
    (H : ∀ r o h', IsLst o (List.replicate n.toNat v) → Fm g L l ((r, o) :: N) h' → Q (.ref r) (St s₀ h' tk)) : wpAny (model prog w) A (binaryOp .Mult (.ref lx) (.int n u)) Q E (St s₀ h tk) := by
  have hhi : n < 2 ^ 63 := by (first | lia | omega)
  have hfold : ∀ j : Nat, List.foldl (fun x1 x2 => x1 ++ x2) #[] (List.replicate j #[v]) = (List.replicate j v).toArray := by
    have : ∀ (j : Nat) (acc : Array Value), List.foldl (fun x1 x2 => x1 ++ x2) acc (List.replicate j #[v]) = acc ++ (List.replicate j v).toArray := by
      intro j
      induction j with
      | zero => intro acc; simp
      | succ j ih => intro acc; rw [List.replicate_succ, List.foldl_cons, ih, List.replicate_succ]; apply Array.ext'; simp
    intro j; rw [this]; simp
  refine wpAny_binaryOp_repeat_ref (s := St s₀ h tk) (T := "list") (U := "int") (by decide) ⟨_, e, rfl⟩ (fun s' => typeIs_int s' n u) noFill_list_mul F.fills_int_mul F.slot_int_rmul repeat_list F.slot_int_index.lookup
    (call_meets F.slot_int_rmul (typeIs_int _ n u) F.entry_int_rmul (F.args_int_rmul_2 _ _) (int___rmul___int_list n u lx #[v] k)
      ⟨e, rfl, ⟨_, e, rfl⟩, call_meets F.slot_list_mul ⟨_, e, rfl⟩ F.entry_list_mul (F.args_list_mul_2 _ _)
        (AutoListH.list___mul___list_int_3 lx #[v] k n u (by simp [Builtin.List.listFitsIndex]; (first | lia | omega)) (by simp; (first | lia | omega)) (by simp [Builtin.List.listTooLong, sizeLine]; (first | lia | omega)))
        ⟨e, ?_⟩⟩)
  have hh : (List.foldl (fun x1 x2 => x1 ++ x2) #[] (List.replicate (if (#[v] : Array Value).isEmpty = true then 0 else n.toNat) #[v])) = (List.replicate n.toNat v).toArray := by
    rw [if_neg (by simp), hfold]
  have := H h.objs.size _ _ (IsLst.of _ _) (FM.push (lisO (List.replicate n.toNat v) 0))
  rw [show (lisO (List.replicate n.toNat v) 0) = { cls := .type "list", data := .seq (List.foldl (fun x1 x2 => x1 ++ x2) #[] (List.replicate (if (#[v] : Array Value).isEmpty = true then 0 else n.toNat) #[v])) } from by rw [hh]] at this
  exact this
end
end Mine
end
section
open PySem PySem.W PySem.Calls PyProof.Rows PySem.Spec
namespace Mine
/-- the table of codes made within a function: not yet, or made once -/
noncomputable def TbOk (h : Heap) (P : Addr) (pos : Pos) (qual : Str) : Prop :=
  ∃ ps, h.get? P = some (tabObj ps) ∧ (ps = #[] ∨ ∃ c', ps = #[rawInt pos.line, rawInt pos.col, .ref c'] ∧ h.CodeRec (.ref c') qual)
theorem rec_ne {h : Heap} {P c' : Addr} {pos : Pos} {q q' : Str} (T : TbOk h P pos q') (r : h.CodeRec (.ref c') q) : c' ≠ P := by
  rintro rfl
  obtain ⟨c, o, vs, t, e, g, d, r⟩ := r
  cases e
  obtain ⟨ps, hp, k⟩ := T
  rw [hp] at g; cases g
  cases d
  rcases k with rfl | ⟨_, rfl, _⟩
  · simp at r
  · simp [rawInt] at r
theorem rec_hide {h : Heap} {W : List Addr} {c' : Addr} {q : Str} (r : h.CodeRec (.ref c') q) (hw : c' ∉ W) : (hideAll h W).CodeRec (.ref c') q := by
  obtain ⟨c, o, vs, t, e, g, r⟩ := r
  cases e
  exact ⟨c', o, vs, t, rfl, hideAll_get _ g hw, r⟩
section
variable {w : World} {A : Around} {s₀ : Shared} {h g : Heap} {tk : Nat} {l : List (Str × Value)} {N : Ld} {env : Env} {L P c : Addr} {pos : Pos} {ps : Array Value} {Q : Value → Shared → Prop}
  {loose : List Str} {mean : ExcName → Option Value} {mg mb : Str → Option Value} {name qual : Str} {params : Arguments} {body : List Stmt} {scope : Scope} {clos : List (Str × Addr)} {fl : Nat}
theorem mkF (G : Gd w loose mean mg mb g) (F : Fm g L l ((P, tabObj ps) :: N) h) (C : CodeHd g c P) (hT : ps = #[] ∨ ∃ c', ps = #[rawInt pos.line, rawInt pos.col, .ref c'] ∧ g.CodeRec (.ref c') qual)
    (hcode : env.code = .ref c) (hcl : closureFor scope env = pure clos)
    (H : ∀ f fo c' ct doc ps' X h' tk', tk ≤ tk' → Fm g L l ((f, fo) :: (P, tabObj ps') :: (N ++ X)) h' → fo.data = .func (fnX name qual params body scope clos .none .none doc ((mg "__name__").getD .none) none (.ref c') ct) →
      (∀ h₂, Kp g h₂ → (∀ q ∈ X, h₂.get? q.1 = some q.2) → h₂.CodeRec (.ref c') qual) → ps' = #[rawInt pos.line, rawInt pos.col, .ref c'] → Q (.ref f) (St s₀ h' tk'))
    (hge0 : env.globals = mainGlobals := by rfl) :
    wpAny (model MP w) A (makeFunction name qual params (.stmts body) scope env [] [] [] pos fl) Q No (St s₀ h tk) := by
  have hP := (F.led _ (.head _))
  have hgs : (St s₀ h tk).heap.Ns mainGlobals mg := G.T.g.keeps F.keep
  obtain ⟨bm, ob, b1, b2, b3, b4, b5, b6⟩ := G.T.bmain
  have hgP : mainGlobals ≠ P := fun q => by
    obtain ⟨o, es, ep, e, hd, _⟩ := hgs
    rw [q, show (St s₀ h tk).heap = h from rfl, hP.1] at e; cases e; cases hd
  have hbP : bm ≠ P := fun q => by
    have e := F.keep _ _ b3
    rw [q, hP.1] at e; cases e; cases b4
  have hbG : bm ≠ mainGlobals := fun q => by
    obtain ⟨o, es, ep, e, hd, _⟩ := G.T.g
    rw [q, e] at b3; cases b3; rw [hd] at b6; cases b6
  have hB : (St s₀ h tk).heap.BuiltinsAt mg P := ⟨bm, ob, b1, b2, hbG, hbP, F.keep _ _ b3, b4, b5, b6⟩
  have CC : CodeHd (St s₀ h tk).heap c P := C.keeps F.keep
  refine wpAny_with_toks (n := tk + 1) (Nat.le_refl _) ?_
  rcases hT with rfl | ⟨c', rfl, hrec⟩
  · refine makeFunction_K (mg := mg) hcl hge0 hgs hcode CC hP.1 (by trivial) (by rfl) hgP hB fun c' ctv doc h' tk' hx hge hlt hrec htb ht => ?_
    have ht : tk + 1 ≤ tk' := ht
    obtain ⟨c₂, oc, vs, t, e2, hoc, hd, hv⟩ := hrec
    cases e2
    have F1 : Fm g L l ((P, tabObj (#[] ++ #[rawInt pos.line, rawInt pos.col, .ref c'])) :: N) h' := by
      have nd := List.nodup_cons.mp (show (P :: N.map (·.1)).Nodup from F.nd)
      refine ⟨F.ns.extBut hx hP.2.1.symm, fun b o e => hx b o (fun q => by rw [q, hP.2.2] at e; cases e) (F.keep b o e), F.Lg, fun q hq => ?_, F.nd⟩
      rcases List.mem_cons.mp hq with rfl | hq
      · exact ⟨htb, hP.2⟩
      · have B := F.led q (.tail _ hq)
        exact ⟨hx _ _ (fun z => nd.1 (z ▸ List.mem_map_of_mem hq)) B.1, B.2⟩
    have hcn : h.get? c' = none := Heap.get?_none_of_le hge
    have F2 : Fm g L l ((c', oc) :: (P, tabObj (#[] ++ #[rawInt pos.line, rawInt pos.col, .ref c'])) :: N) h' := by
      have hcP : c' ≠ P := fun q => by rw [q, hP.1] at hcn; cases hcn
      have hcL : c' ≠ L := F.Lne hcn
      refine ⟨F1.ns, F1.keep, F1.Lg, fun q hq => ?_, ?_⟩
      · rcases List.mem_cons.mp hq with rfl | hq
        · exact ⟨hoc, hcL, F.gnone hcn⟩
        · exact F1.led q hq
      · refine List.nodup_cons.mpr ⟨fun hm => ?_, F1.nd⟩
        rcases List.mem_cons.mp hm with e | hm
        · exact hcP e
        · obtain ⟨q, hq, e⟩ := List.mem_map.mp hm
          have := (F.led q (.tail _ hq)).1
          rw [e, hcn] at this; cases this
    have F3 := F2.push (fnMade name qual params body scope clos doc ((mg "__name__").getD .none) c' ctv)
    rw [show ({ St s₀ h tk with heap := h'.push (fnMade name qual params body scope clos doc ((mg "__name__").getD .none) c' ctv), toks := tk' } : Shared) = St s₀ (h'.push (fnMade name qual params body scope clos doc ((mg "__name__").getD .none) c' ctv)) (tk' - 1) from toks_back ht]
    have F4 : Fm g L l ((h'.objs.size, fnMade name qual params body scope clos doc ((mg "__name__").getD .none) c' ctv) :: (P, tabObj (#[] ++ #[rawInt pos.line, rawInt pos.col, .ref c'])) :: (N ++ [(c', oc)])) (h'.push (fnMade name qual params body scope clos doc ((mg "__name__").getD .none) c' ctv)) :=
      F3.perm (List.Perm.cons _ ((List.Perm.swap _ _ _).trans (List.Perm.cons _ (List.perm_append_singleton _ _).symm)))
    exact H h'.objs.size _ c' ctv doc _ _ _ (tk' - 1) (by (first | lia | omega)) F4 rfl (fun h₂ _ hX => ⟨c', oc, vs, t, rfl, hX _ (.head _), hd, hv⟩) (by simp)
  · refine makeFunction_hit (cv := .ref c') (mg := mg) hcl hge0 hgs hcode CC hP.1 (by trivial) (by simp [codeAmong, rawInt]) hB fun ctv doc h' tk' hk hsz ht => ?_
    have ht : tk + 1 ≤ tk' := ht
    have hk : Kp h h' := hk
    rw [show ({ St s₀ h tk with heap := h'.push { cls := .type "function", data := .func (fnX name qual params body scope clos .none .none doc ((mg "__name__").getD .none) none (.ref c') ctv) }, toks := tk' } : Shared) = St s₀ (h'.push { cls := .type "function", data := .func (fnX name qual params body scope clos .none .none doc ((mg "__name__").getD .none) none (.ref c') ctv) }) (tk' - 1) from toks_back ht]
    exact H h'.objs.size _ c' ctv doc _ [] _ (tk' - 1) (by (first | lia | omega)) (by rw [List.append_nil]; exact (F.kp hk).push _) rfl (fun h₂ k₂ _ => hrec.keeps k₂) rfl
end
end Mine
end
section
open PySem PySem.W PySem.Calls PyProof.Rows PySem.Spec
namespace Mine
theorem bits_le {X k : Nat} (h : X < 2 ^ k) : Builtin.Int.intBits (X : Int) ≤ k := intBits_le_iff.mpr (by simpa using h)
theorem land_hi (X s : Nat) : X &&& (X / 2 ^ s * 2 ^ s) = X / 2 ^ s * 2 ^ s := by
  rw [← Nat.shiftRight_eq_div_pow, ← Nat.shiftLeft_eq]
  apply Nat.eq_of_testBit_eq
  intro i
  rw [Nat.testBit_and, Nat.testBit_shiftLeft]
  by_cases h : s ≤ i
  · simp [h, Nat.testBit_shiftRight, Nat.add_sub_cancel' h]
  · simp [h]
theorem xor_hi (X s : Nat) : Builtin.bitXor (X : Int) ((X / 2 ^ s * 2 ^ s : Nat) : Int) = ((X % 2 ^ s : Nat) : Int) := by
  rw [bitXor_and, bitAnd_pp (Int.natCast_nonneg _) (Int.natCast_nonneg _)]
  simp only [Int.toNat_natCast]
  rw [land_hi]
  have := Nat.div_add_mod X (2 ^ s)
  rw [Nat.mul_comm] at this
  (first | lia | omega)
theorem fdiv_nat (a b : Nat) : (a : Int).fdiv (b : Int) = ((a / b : Nat) : Int) := by
  rw [Int.fdiv_eq_ediv_of_nonneg _ (Int.natCast_nonneg _)]; rfl
theorem fmod_nat (a b : Nat) : (a : Int).fmod (b : Int) = ((a % b : Nat) : Int) := by
  rw [Int.fmod_eq_emod_of_nonneg _ (Int.natCast_nonneg _)]; rfl
theorem pow_cast (s : Nat) : (2 ^ s : Int) = ((2 ^ s : Nat) : Int) := by simp
theorem shr_nat (a s : Nat) : (a : Int).fdiv (2 ^ ((s : Nat) : Int).toNat) = ((a / 2 ^ s : Nat) : Int) := by
  rw [Int.toNat_natCast, pow_cast, fdiv_nat]
theorem shl_nat (a s : Nat) : (a : Int) * (2 ^ ((s : Nat) : Int).toNat) = ((a * 2 ^ s : Nat) : Int) := by
  rw [Int.toNat_natCast, pow_cast]; simp
theorem dig_lo {Y n lo mid i : Nat} (h1 : lo ≤ i) (h2 : i < mid) : (Y % 2 ^ ((mid - lo) * n)) / 2 ^ (n * (i - lo)) % 2 ^ n = Y / 2 ^ (n * (i - lo)) % 2 ^ n := by
  have e : (mid - lo) * n = n * (i - lo) + (n + n * (mid - i - 1)) := by
    rw [Nat.mul_comm, show mid - lo = (i - lo) + (1 + (mid - i - 1)) by (first | lia | omega), Nat.mul_add, Nat.mul_add, Nat.mul_one]
  rw [e, Nat.pow_add, Nat.mod_mul_right_div_self]
  rw [Nat.pow_add, Nat.mod_mul_right_mod]
theorem dig_hi {Y n lo mid i : Nat} (h0 : lo ≤ mid) (h1 : mid ≤ i) : (Y / 2 ^ ((mid - lo) * n)) / 2 ^ (n * (i - mid)) = Y / 2 ^ (n * (i - lo)) := by
  rw [Nat.div_div_eq_div_mul, ← Nat.pow_add]
  congr 2
  rw [Nat.mul_comm (mid - lo), ← Nat.mul_add]; congr 1; (first | lia | omega)
theorem lo_lt {Y n lo mid : Nat} : Y % 2 ^ ((mid - lo) * n) < 2 ^ (n * (mid - lo)) := by
  rw [Nat.mul_comm n]; exact Nat.mod_lt _ (Nat.two_pow_pos _)
theorem hi_lt {Y n lo mid hi : Nat} (h1 : lo ≤ mid) (h2 : mid ≤ hi) (h : Y < 2 ^ (n * (hi - lo))) : Y / 2 ^ ((mid - lo) * n) < 2 ^ (n * (hi - mid)) := by
  rw [Nat.div_lt_iff_lt_mul (Nat.two_pow_pos _), ← Nat.pow_add]
  refine Nat.lt_of_lt_of_le h (Nat.pow_le_pow_right (by decide) (Nat.le_of_eq ?_))
  rw [Nat.mul_comm (mid - lo), ← Nat.mul_add]; congr 1; (first | lia | omega)
noncomputable def Dg (vs vs' : List Value) (lo hi X n : Nat) : Prop :=
  vs'.length = vs.length ∧ (∀ i, lo ≤ i → i < hi → ∃ t, vs'[i]? = some (.int ((X / 2 ^ (n * (i - lo)) % 2 ^ n : Nat) : Int) t)) ∧ ∀ i, (i < lo ∨ hi ≤ i) → vs'[i]? = vs[i]?
theorem Dg.one {vs : List Value} {lo Y n : Nat} {t : Tok} (hY : Y < 2 ^ (n * (lo + 1 - lo))) (hl : lo < vs.length) : Dg vs (vs.set lo (.int Y t)) lo (lo + 1) Y n := by
  refine ⟨List.length_set, fun i h1 h2 => ?_, fun i hi => ?_⟩
  · obtain rfl : i = lo := by (first | lia | omega)
    rw [List.getElem?_set_self hl]
    refine ⟨t, ?_⟩
    rw [show i + 1 - i = 1 by (first | lia | omega), Nat.mul_one] at hY
    rw [Nat.sub_self, Nat.mul_zero, Nat.pow_zero, Nat.div_one, Nat.mod_eq_of_lt hY]
  · exact List.getElem?_set_ne (by (first | lia | omega))
theorem Dg.two {vs vs' vs'' : List Value} {lo mid hi Y n : Nat} (h1 : lo ≤ mid) (h2 : mid ≤ hi) (a : Dg vs vs' lo mid (Y % 2 ^ ((mid - lo) * n)) n) (b : Dg vs' vs'' mid hi (Y / 2 ^ ((mid - lo) * n)) n) : Dg vs vs'' lo hi Y n := by
  refine ⟨b.1.trans a.1, fun i i1 i2 => ?_, fun i hi' => ?_⟩
  · by_cases h : i < mid
    · obtain ⟨t, e⟩ := a.2.1 i i1 h
      exact ⟨t, by rw [b.2.2 i (.inl h), e, dig_lo i1 h]⟩
    · obtain ⟨t, e⟩ := b.2.1 i (by (first | lia | omega)) i2
      exact ⟨t, by rw [e, dig_hi h1 (by (first | lia | omega))]⟩
  · rw [b.2.2 i (by (first | lia | omega)), a.2.2 i (by (first | lia | omega))]
section
variable {w : World} {A : Around} {s₀ : Shared} {h : Heap} {tk : Nat} {env : Env} {f : Str} {pf pos : Pos} {q : Addr} {Q : Value → Shared → Prop}
theorem callV {e : Expr} {rest : List Expr} (X : FnAt q h)
    (H : wpAny (model MP w) A (spliced (backTo pos (starEach (e :: rest) env))) (fun vs s₁ => FnAt q s₁.heap ∧ wpAny (model MP w) A (call (.ref q) vs) Q No s₁) No (St s₀ h tk))
    (hs : starEach (e :: rest) env = (false, eval e env) :: starEach rest env := by first | exact star_LC | rfl) (hp : (backTo pos (starEach rest env)).any (·.1) = false := by rfl) :
    wpAny (model MP w) A (callWith pos (.ref q) [] (backTo pos (starEach (e :: rest) env)) []) Q No (St s₀ h tk) := callWith_F X H hs hp
end
theorem fnAt_of {h : Heap} {f : Addr} {fo : Obj} {fd : FuncData} (e : h.get? f = some fo) (hd : fo.data = .func fd) : FnAt f h := by
  obtain ⟨a, b, c, d⟩ := fo
  dsimp only at hd
  subst hd
  exact ⟨a, b, fd, d, e⟩
theorem kp_hide {g h₂ h' : Heap} {D : Addr} (kp : Kp g (hideAll h₂ [D])) (k : Kp (hideAll h₂ [D]) h') : Kp g (hideAll h' [D]) := fun b o e => hideAll_get _ (k _ _ (kp _ _ e)) fun hm => by
  rw [List.mem_singleton] at hm
  subst hm
  have := kp _ _ e
  rw [hideAll_none _ (.head _)] at this; cases this
theorem half_le {lo hi k mid : Nat} (h : hi - lo ≤ 2 ^ (k + 1)) (e : (lo + hi) / 2 = mid) (hl : lo < hi) : mid - lo ≤ 2 ^ k ∧ hi - mid ≤ 2 ^ k := by
  rw [Nat.pow_succ] at h; (first | lia | omega)
theorem hide_none {h : Heap} {W : List Addr} {a : Addr} (e : (hideAll h W).get? a = none) (hw : a ∉ W) : h.get? a = none := by
  cases q : h.get? a with
  | none => rfl
  | some o => rw [hideAll_get _ q hw] at e; cases e
theorem dig_count {X n : Nat} (hn : 0 < n) : X < 2 ^ (n * ((Builtin.Int.intBits (X : Int) + n - 1) / n)) ∧ n * ((Builtin.Int.intBits (X : Int) + n - 1) / n) ≤ Builtin.Int.intBits (X : Int) + n - 1 := by
  have h1 : X < 2 ^ Builtin.Int.intBits (X : Int) := by simpa using intBits_le_iff.mp (Nat.le_refl (Builtin.Int.intBits (X : Int)))
  have h2 := Nat.div_add_mod (Builtin.Int.intBits (X : Int) + n - 1) n
  have h3 := Nat.mod_lt (Builtin.Int.intBits (X : Int) + n - 1) hn
  exact ⟨Nat.lt_of_lt_of_le h1 (Nat.pow_le_pow_right (by decide) (by (first | lia | omega))), Nat.mul_div_le _ _⟩
theorem bits_pos {X : Nat} (h : X ≠ 0) : 0 < Builtin.Int.intBits (X : Int) := by
  unfold Builtin.Int.intBits
  rw [if_neg (by simpa using h)]
  exact Nat.succ_pos _
noncomputable def dval (n : Nat) : List Nat → Nat
  | [] => 0
  | d :: ds => d + 2 ^ n * dval n ds
theorem dval_append (n : Nat) (a b : List Nat) : dval n (a ++ b) = dval n a + 2 ^ (n * a.length) * dval n b := by
  induction a with
  | nil => simp [dval]
  | cons d a ih => 
    rw [List.cons_append, dval, dval, ih, List.length_cons, Nat.mul_add, Nat.mul_add n, Nat.mul_one, Nat.pow_add, Nat.add_assoc, ← Nat.mul_assoc, Nat.mul_comm (2 ^ n)]
    simp [Nat.mul_assoc, Nat.mul_comm, Nat.mul_left_comm]
theorem dval_lt {n : Nat} {ds : List Nat} (h : ∀ d ∈ ds, d < 2 ^ n) : dval n ds < 2 ^ (n * ds.length) := by
  induction ds with
  | nil => simp [dval]
  | cons d ds ih =>
    have h1 := h d (.head _)
    have h2 := ih fun e he => h e (.tail _ he)
    rw [dval, List.length_cons, Nat.mul_add, Nat.mul_one, Nat.add_comm (n * ds.length), Nat.pow_add]
    have : 2 ^ n * (dval n ds + 1) ≤ 2 ^ n * 2 ^ (n * ds.length) := Nat.mul_le_mul_left _ h2
    rw [Nat.mul_add] at this
    (first | lia | omega)
noncomputable def seg (ds : List Nat) (lo hi : Nat) : List Nat := (ds.drop lo).take (hi - lo)
theorem seg_one {ds : List Nat} {lo : Nat} {d : Nat} (h : ds[lo]? = some d) (n : Nat) : dval n (seg ds lo (lo + 1)) = d := by
  unfold seg
  rw [show lo + 1 - lo = 1 by (first | lia | omega)]
  obtain ⟨hl, e⟩ := List.getElem?_eq_some_iff.mp h
  have : ds.drop lo = d :: ds.drop (lo + 1) := by rw [List.drop_eq_getElem_cons hl, e]
  rw [this, List.take_succ_cons, List.take_zero]
  simp [dval]
theorem seg_two {ds : List Nat} {lo mid hi : Nat} (h1 : lo ≤ mid) (h2 : mid ≤ hi) (h3 : hi ≤ ds.length) (n : Nat) : dval n (seg ds lo hi) = dval n (seg ds mid hi) * 2 ^ ((mid - lo) * n) + dval n (seg ds lo mid) := by
  have e : seg ds lo hi = seg ds lo mid ++ seg ds mid hi := by
    unfold seg
    rw [show hi - lo = (mid - lo) + (hi - mid) by (first | lia | omega), List.take_add, List.drop_drop, show lo + (mid - lo) = mid by (first | lia | omega)]
  rw [e, dval_append]
  have hl : (seg ds lo mid).length = mid - lo := by unfold seg; simp; (first | lia | omega)
  rw [hl, Nat.mul_comm n, Nat.mul_comm (2 ^ _)]
  (first | lia | omega)
theorem seg_lt {ds : List Nat} {n lo hi : Nat} (h : ∀ d ∈ ds, d < 2 ^ n) : dval n (seg ds lo hi) < 2 ^ (n * (hi - lo)) := by
  refine Nat.lt_of_lt_of_le (dval_lt fun d hd => h d (List.mem_of_mem_drop (List.mem_of_mem_take hd))) (Nat.pow_le_pow_right (by decide) (Nat.mul_le_mul_left _ ?_))
  unfold seg
  exact List.length_take_le _ _
theorem ints_get {vs : List Value} {ds : List Nat} (hv : IntsAre vs (ds.map fun d : Nat => (d : Int))) {i d : Nat} (hd : ds[i]? = some d) : ∃ t, vs[i]? = some (.int d t) := by
  obtain ⟨v, e, r⟩ := (RA.ints (H := fun _ _ => True) (B := 0) hv).getD (k := i) (d := .int d) (by simp [hd])
  cases r
  exact ⟨_, e⟩
section
variable {prog : Program} {w : World} {A : Around} {s₀ : Shared} {h : Heap} {tk : Nat} {a : Addr} {o : Obj} {vs : List Value}
theorem truL {Q : Bool → Shared → Prop} {E : Value → Shared → Prop} (e : h.get? a = some o) (hlo : IsLst o vs) (hf : vs.length < 2 ^ 62) (H : ∀ tk', tk ≤ tk' → Q (!vs.isEmpty) (St s₀ h tk')) : wpAny (model prog w) A (truthy (.ref a)) Q E (St s₀ h tk) :=
  wpAny_truthy_list (s := St s₀ h tk) (hlo.is e) (by simp only [List.size_toArray]; (first | lia | omega)) (by
    have := H (tk + 2) (by (first | lia | omega))
    simpa using this)
end
end Mine
end
section
open PySem PySem.W PySem.Calls PyProof.Rows PySem.Spec
namespace Mine
section
variable {prog : Program} {w : World} {A : Around} {s₀ : Shared} {h g : Heap} {tk : Nat} {l : List (Str × Value)} {N Is : Ld} {env : Env} {x y : Str} {px py tp pos : Pos} {v : Value} {L : Addr} {vs ws : List Value} {a b : Addr} {n n2 : Nat}
noncomputable def RvIt (I ax : Addr) (k : Int) (i : Nat) (Is : Ld) : Prop := ∃ o, Is = [(I, o)] ∧ o.cls = .type "list_reverseiterator" ∧ o.data = .fields #[.ref ax, rawInt (k - 1 - i)]
theorem RvIt.at {I ax : Addr} {k : Int} {i : Nat} {Is : Ld} {L : Addr} (q : RvIt I ax k i Is) (F : Fm g L l (Is ++ N) h) : h.IsRevIter I ax (k - 1 - i) := by
  obtain ⟨o, rfl, h1, h2⟩ := q
  exact ⟨o, (F.led _ (.head _)).1, h1, h2⟩
theorem Dr.rev {I ax : Addr} {lo : Obj} {items : List Value} (hlo : IsLst lo items) (hh : A.handled = none) (hk : env.scope.kind = .function := by rfl) (hx : env.kindOf x = some .local := by rfl) :
    Dr prog w A env (.Name x px) (.ref I) items.length (fun i b => ∃ v, items[items.length - 1 - i]? = some v ∧ b = [(x, v)]) (RvIt I ax items.length) [(ax, lo)] where
  next := fun g s₀ i Is l N h tk Q hi hs hsrc F H => by
    have hl : (St s₀ h tk).heap.IsList ax items.toArray := hlo.is (F.at (kn_app (hsrc _ (.head _))))
    have e : (items.length : Int) - 1 - i = ((items.length - 1 - i : Nat) : Int) := by (first | lia | omega)
    have hit := hs.at F
    rw [e] at hit
    have hx2 : items[items.length - 1 - i]? = some (items[items.length - 1 - i]'(by (first | lia | omega))) := List.getElem?_eq_getElem (by (first | lia | omega))
    refine wpAny_pyNext_rev_item (s := St s₀ h tk) (x := items[items.length - 1 - i]'(by (first | lia | omega))) hit hl (by simpa using hx2) fun h' hit' hs' => ?_
    have e2 : ((items.length - 1 - i : Nat) : Int) - 1 = (items.length : Int) - 1 - ((i + 1 : Nat) : Int) := by (first | lia | omega)
    rw [e2] at hit'
    obtain ⟨o, rfl, h1, h2⟩ := hs
    obtain ⟨o', e1, e2, e3⟩ := hit'
    refine wpAny_pure ?_
    exact asN (F.upd hs' e1) (fun h₂ tk₂ t₂ F₂ => H [(x, _)] [(I, o')] h₂ tk₂ t₂ ⟨_, hx2, rfl⟩ ⟨o', rfl, e2, e3⟩ F₂) hk hx
  done := fun g s₀ Is l N h tk Q hs hsrc F H => by
    have hit := hs.at F
    rw [show (items.length : Int) - 1 - (items.length : Nat) = -1 by (first | lia | omega)] at hit
    obtain ⟨o, rfl, h1, h2⟩ := hs
    exact wpAny_pyNext_rev_end (s := St s₀ h tk) hh hit fun h' he => H h' tk (Nat.le_refl _) (fm_out F fun b o hb e => he b o (by simpa using hb) e)
  self := fun g s₀ i Is l N h tk Q hs F H => wpAny_pyIter_revIter (s := St s₀ h tk) (hs.at F) H
theorem r_reversed {Q : Value → Shared → Prop} {lo : Obj} (e : h.get? a = some lo) (hlo : IsLst lo vs) (H : ∀ I h₂ o, Kp h h₂ → (∀ q ∈ [(I, o)], New h h₂ q.1 q.2) → RvIt I a vs.length 0 [(I, o)] → Q (.ref I) (St s₀ h₂ tk)) :
    wpAny (model prog w) A (call (.type "reversed") [.ref a]) Q No (St s₀ h tk) := by
  refine call_reversed_list (s := St s₀ h tk) (hlo.is e) ?_
  refine H h.objs.size _ (revObj a ((vs.toArray.size : Int) - 1)) (kp_push _ _) (fun q hq => by rw [List.mem_singleton.mp hq]; exact new_push _ _) ⟨_, rfl, rfl, ?_⟩
  simp [revObj]
/-- list.reverse() of the list at the ledger's head -/
theorem r_reverse {Q : Value → Shared → Prop} (F : Fm g L l ((a, lisO vs n) :: N) h) (hsz : vs.length ≤ sizeLine) (H : ∀ h' n', Fm g L l ((a, lisO vs.reverse n') :: N) h' → Q .none (St s₀ h' tk)) :
    wpAny (model prog w) A (callWith pos (.builtin "list.reverse") [.ref a] [] []) Q No (St s₀ h tk) := by
  have e := F.of (q := (a, lisO vs n)) (.head _)
  refine P.reverse_list (s := St s₀ h tk) (n := n) e ?_ (by simpa using hsz)
  have e2 : (h.update a (Obj.mapSeq fun x => x.reverse)).get? a = some (Obj.mapSeq (fun x => x.reverse) (lisO vs n)) := Heap.get?_update_self _ e rfl
  have hs : Heap.SameBut a h (h.update a (Obj.mapSeq fun x => x.reverse)) := Heap.SameBut.update ..
  have F' := F.upd hs e2
  obtain ⟨n', hn⟩ : ∃ n', Obj.mapSeq (fun x => x.reverse) (lisO vs n) = lisO vs.reverse n' := ⟨_, by simp [Obj.mapSeq, lisO, W.listOf]; rfl⟩
  rw [hn] at F'
  exact H _ n' F'
theorem mth_reverse {Q : Value × List Value → Shared → Prop} {pl : Sem Bool} (e : h.get? a = some (lisO vs n)) (H : Q (.builtin "list.reverse", [.ref a]) (St s₀ h tk)) :
    wpAny (model prog w) A (getMethod (.ref a) "reverse" pl) Q No (St s₀ h tk) := by
  have hT : (St s₀ h tk).TypeIs (.ref a) "list" := ⟨_, e, rfl⟩
  unfold getMethod
  refine wpAny_bind (wpAny_specialOf hT list_getattribute ?_)
  show wpAny _ A (if (Manifest.canonical "list.__getattribute__" != "object.__getattribute__") = true then _ else _) Q _ _
  rw [canon_list_getattribute, if_neg Bool.false_ne_true]
  refine wpAny_bind (wpAny_specialOf hT list_getattr_none ?_)
  refine wpAny_bind (wpAny_specialOf hT PySem.F.slot_list_reverse.lookup ?_)
  refine wpAny_bind (wpAny_of_eq PySem.F.type_list_reverse ?_)
  refine wpAny_bind (wpAny_load e ?_)
  exact wpAny_bind (wpAny_rule (wpAny_pure H))
end
end Mine
end
section
open PySem PySem.W PySem.Calls PyProof.Rows PySem.Spec
namespace Mine
section
variable {g h h' : Heap} {L a P c' : Addr} {l : List (Str × Value)} {N W : Ld} {o : Obj} {pos : Pos} {q q' : Str} {ps : Array Value}
noncomputable def TbR (g : Heap) (pos : Pos) (qual : Str) (ps : Array Value) : Prop := ps = #[] ∨ ∃ c', ps = #[rawInt pos.line, rawInt pos.col, .ref c'] ∧ g.CodeRec (.ref c') qual
noncomputable def NoRec (o : Obj) : Prop := ∀ vs s t, o.data = .fields vs → vs[1]? ≠ some (.str s t)
theorem TbR.norec (T : TbR g pos q ps) : NoRec (tabObj ps) := by
  intro vs s t e h
  rcases T with rfl | ⟨c', rfl, _⟩
  · cases e; simp at h
  · cases e; simp [rawInt] at h
theorem TbR.keeps (T : TbR g pos q ps) (k : Kp g h) : TbR h pos q ps := T.imp id fun ⟨c', e, r⟩ => ⟨c', e, r.keeps k⟩
theorem TbR.ok (T : TbR g pos q ps) (k : Kp g h) (e : h.get? P = some (tabObj ps)) : TbOk h P pos q := ⟨ps, e, T.keeps k⟩
theorem rec_base (F : Fm g L l W h) (hW : ∀ p ∈ W, NoRec p.2) (r : h.CodeRec (.ref c') q) : (hideAll h (L :: W.map (·.1))).CodeRec (.ref c') q := by
  refine rec_hide r fun hm => ?_
  obtain ⟨c, o, vs, t, e, g', d, r⟩ := r
  cases e
  rcases List.mem_cons.mp hm with rfl | hm
  · obtain ⟨o', es, ep, e', hd, _⟩ := F.ns
    rw [e'] at g'; cases g'
    rw [hd] at d; cases d
  · obtain ⟨p, hp, rfl⟩ := List.mem_map.mp hm
    rw [F.of hp] at g'; cases g'
    exact hW p hp _ _ _ d r
theorem tb_base (F : Fm g L l W h) (hW : ∀ p ∈ W, NoRec p.2) (T : TbR h pos q ps) : TbR (hideAll h (L :: W.map (·.1))) pos q ps := T.imp id fun ⟨c', e, r⟩ => ⟨c', e, rec_base F hW r⟩
theorem new_base (F : Fm g L l W h) (nw : New h h' a o) : (hideAll h' (L :: W.map (·.1))).get? a = some o := by
  refine hideAll_get _ nw.2 fun hm => ?_
  have nw := nw.1
  rcases List.mem_cons.mp hm with rfl | hm
  · obtain ⟨o', es, ep, e', _⟩ := F.ns
    rw [e'] at nw; cases nw
  · obtain ⟨p, hp, rfl⟩ := List.mem_map.mp hm
    rw [F.of hp] at nw; cases nw
theorem tb_hide {P2 : Addr} {pos2 : Pos} {q2 : Str} (T : TbOk h P pos q) (T2 : TbOk h P2 pos2 q2) : ∃ ps ps2, h.get? P = some (tabObj ps) ∧ h.get? P2 = some (tabObj ps2) ∧ TbR (hideAll h [P, P2]) pos q ps ∧ TbR (hideAll h [P, P2]) pos2 q2 ps2 := by
  have T0 := T
  have T20 := T2
  obtain ⟨ps, e, r⟩ := T
  obtain ⟨ps2, e2, r2⟩ := T2
  refine ⟨ps, ps2, e, e2, r.imp id fun ⟨c', h1, r⟩ => ⟨c', h1, rec_hide r ?_⟩, r2.imp id fun ⟨c', h1, r⟩ => ⟨c', h1, rec_hide r ?_⟩⟩
  · simp; exact ⟨rec_ne T0 r, rec_ne T20 r⟩
  · simp; exact ⟨rec_ne T0 r, rec_ne T20 r⟩
/-- what a base and a place to be changed give the callee -/
theorem kp_but {W : List Addr} (k : Kp g h) (hg : ∀ a ∈ W, g.get? a = none) : Kp g (hideAll h W) := fun b o e => hideAll_get _ (k _ _ e) fun hm => by
  rw [hg b hm] at e; cases e
end
theorem Fm.its {g h h' : Heap} {L : Addr} {l : List (Str × Value)} {N Is : Ld} (F : Fm g L l N h) (kp : Kp h h') (nw : ∀ q ∈ Is, New h h' q.1 q.2) (nd : (Is.map (·.1)).Nodup := by exact List.nodup_cons.mpr ⟨(fun h => nomatch h), List.nodup_nil⟩) : Fm g L l (Is ++ N) h' :=
  (F.app kp nw nd).perm List.perm_append_comm
theorem intsAre_snoc {vs : List Value} {ns : List Int} {i : Int} {t : Tok} (h : IntsAre vs ns) : IntsAre (vs ++ [.int i t]) (ns ++ [i]) := by
  induction h with
  | nil => exact .cons _ _ .nil
  | cons _ _ _ ih => exact .cons _ _ ih
theorem intsAre_rev {vs : List Value} {ns : List Int} (h : IntsAre vs ns) : IntsAre vs.reverse ns.reverse := by
  induction h with
  | nil => exact .nil
  | cons _ _ _ ih => rw [List.reverse_cons, List.reverse_cons]; exact intsAre_snoc ih
theorem div_step {X Y n K j : Nat} (hY : 0 < Y) (hj : j < K) :
    (X / 2 ^ (n * (K - j)) % Y * 2 ^ n + X / 2 ^ (n * (K - 1 - j)) % 2 ^ n) % Y = X / 2 ^ (n * (K - (j + 1))) % Y ∧
    X / 2 ^ (n * (K - (j + 1))) / Y = (X / 2 ^ (n * (K - j)) % Y * 2 ^ n + X / 2 ^ (n * (K - 1 - j)) % 2 ^ n) / Y + 2 ^ n * (X / 2 ^ (n * (K - j)) / Y) := by
  have e1 : K - (j + 1) = K - 1 - j := by (first | lia | omega)
  have e2 : n * (K - j) = n * (K - 1 - j) + n := by rw [show K - j = (K - 1 - j) + 1 by (first | lia | omega), Nat.mul_add, Nat.mul_one]
  rw [e1, e2, Nat.pow_add, ← Nat.div_div_eq_div_mul]
  generalize X / 2 ^ (n * (K - 1 - j)) = A
  have h1 := Nat.div_add_mod A (2 ^ n)
  have h2 := Nat.div_add_mod (A / 2 ^ n) Y
  generalize hB : A / 2 ^ n = B at *
  generalize hd : A % 2 ^ n = d at *
  generalize hr : B % Y = r at *
  generalize hq : B / Y = q at *
  generalize 2 ^ n = E at *
  have e3 : A = Y * (q * E) + (r * E + d) := by
    rw [← h1, ← h2, Nat.mul_add, ← Nat.mul_assoc Y, Nat.mul_comm E (Y * q), Nat.mul_comm E r, Nat.add_assoc]
  rw [e3]
  constructor
  · rw [Nat.mul_add_mod]
  · rw [Nat.mul_add_div hY, Nat.add_comm, Nat.mul_comm q]
theorem div_dig {X Y n K j : Nat} (hY : 0 < Y) : (X / 2 ^ (n * (K - j)) % Y * 2 ^ n + X / 2 ^ (n * (K - 1 - j)) % 2 ^ n) / Y < 2 ^ n := by
  rw [Nat.div_lt_iff_lt_mul hY]
  have h1 : X / 2 ^ (n * (K - j)) % Y < Y := Nat.mod_lt _ hY
  have h2 : X / 2 ^ (n * (K - 1 - j)) % 2 ^ n < 2 ^ n := Nat.mod_lt _ (Nat.two_pow_pos n)
  have h3 : (X / 2 ^ (n * (K - j)) % Y + 1) * 2 ^ n ≤ Y * 2 ^ n := Nat.mul_le_mul_right _ h1
  rw [Nat.add_mul, Nat.one_mul] at h3
  rw [Nat.mul_comm (2 ^ n)]
  (first | lia | omega)
end Mine
end
section
open PySem PySem.W PySem.Calls PyProof.Rows PySem.Spec
namespace Mine
open PySem.Builtin.Re
noncomputable def reIt : Nat → Sre.M → Option Sre.M
  | 0, _ => none
  | k + 1, m => let m' := m.runFor reTurnSteps; if m'.outcome.isSome then some m' else reIt k m'
noncomputable def nmCode : Array Nat := #[14, 10, 4, 1, 1, 22, 0, 31, 16, 127, 0, 13, 7, 22, 0, 31, 16, 127, 0, 1]
noncomputable def vlCode : Array Nat := #[14, 14, 4, 1, 1, 9, 4294966783, 0, 0, 2147483648, 0, 0, 0, 0, 0, 13, 11, 9, 4294966783, 0, 0, 2147483648, 0, 0, 0, 0, 0, 1]
/-- the search finds nothing, told by the machine in few turns -/
noncomputable def okS (code : Array Nat) (x : Str) : Bool := (reIt 40 (Sre.forSearch code x.cps 0 0 x.cps.size false)).any fun m => m.outcome matches some .failed
section
variable {M : Model} {A : Around} {E : Value → Shared → Prop} {s : Shared}
theorem drive_of {Q : Sre.M → Shared → Prop} : ∀ (k : Nat) (m m' : Sre.M) (n : Nat), reIt k m = some m' → k ≤ n → Q m' s → wpAny M A (reDrive n m) Q E s
  | 0, m, m', n, h, _, _ => by cases h
  | k + 1, m, m', 0, _, hk, _ => by (first | lia | omega)
  | k + 1, m, m', n + 1, h, hk, q => by
    rw [reDrive]
    rw [reIt] at h
    split at h
    · rename_i h1
      rw [if_pos h1]
      obtain rfl := Option.some.inj h
      exact wpAny_pure q
    · rename_i h1
      rw [if_neg h1]
      exact wpAny_bind (wpAny_rule (drive_of k _ m' n h (by (first | lia | omega)) q))
theorem rules_loop {Q : PUnit → Shared → Prop} (c : Nat → Bool) (f : Nat → String) (h : Q ⟨⟩ s) : ∀ l : List Nat, wpAny M A (forIn l PUnit.unit fun i _ => if c i = true then (rule (f i) >>= fun _ => pure (ForInStep.yield PUnit.unit)) else pure (ForInStep.yield PUnit.unit)) Q E s
  | [] => wpAny_pure h
  | i :: l => by
    rw [List.forIn_cons]
    refine wpAny_bind ?_
    split
    · exact wpAny_bind (wpAny_rule (wpAny_pure (rules_loop c f h l)))
    · exact wpAny_pure (rules_loop c f h l)
theorem run_none {Q : Option Sre.M → Shared → Prop} {m : Sre.M} (h : (reIt 40 m).any (fun m => m.outcome matches some .failed) = true) (q : Q none s) : wpAny M A (reRunToEnd m) Q E s := by
  cases e : reIt 40 m with
  | none => rw [e] at h; cases h
  | some m' =>
    rw [e] at h
    unfold reRunToEnd
    refine wpAny_bind (drive_of 40 m m' (2 ^ 64) e (by decide) ?_)
    have ho : m'.outcome = some .failed := by
      simp only [Option.any_some] at h
      split at h
      · assumption
      · cases h
    refine wpAny_bind (rules_loop _ _ ?_ _)
    rw [ho]
    exact wpAny_pure q
end
theorem slot_search : Slot "re.Pattern" "search" "re.Pattern.search" :=
  .of (owner := "re.Pattern") (n := "search") (by rw [typeLookup_type, builtinLookup_eq_fast]; kernel_rfl) (by decide +kernel) (by decide +kernel) (by decide +kernel)
    (by first | exact .inl (by decide +kernel) | exact .inr (by decide +kernel)) (by rw [isSubtype_type]; kernel_rfl)
theorem type_search : typeOf (.builtin "re.Pattern.search") = pure (.type "method_descriptor") := by show builtinType _ = _; rw [builtinType_eq_fast]; kernel_rfl
theorem entry_search : entryFor table "re.Pattern.search" = some Builtin.«re.Pattern.search» := entryFor_of_tree (by kernel_rfl)
theorem args_search_2 (a b : Value) : argsOk "re.Pattern.search" ⟨[a, b], []⟩ := by unfold argsOk; kernel_rfl
theorem pat_ga : typeLookup (.type "re.Pattern") "__getattribute__" = pure (some (.builtin "object.__getattribute__")) := by rw [typeLookup_type, builtinLookup_eq_fast]; kernel_rfl
theorem pat_noga : typeLookup (.type "re.Pattern") "__getattr__" = pure none := by rw [typeLookup_type, builtinLookup_eq_fast]; kernel_rfl
theorem named_eq (v : Value) : reNamed "re.Pattern.search" "search" ["string", "pos", "endpos"] 1 [v] [] = pure [some v, none, none] := by kernel_rfl
section
variable {prog : Program} {w : World} {A : Around} {E : Value → Shared → Prop} {s : Shared}
theorem r_search {p tp : Addr} {fs items : Array Value} {n : Nat} {code : Array Nat} {x : Str} {t : Tok} {Q : Value → Shared → Prop} {op ot : Obj} (hp : s.heap.get? p = some op) (hpc : op.cls = .type "re.Pattern") (hpd : op.data = .fields fs) (h5 : fs.getD 5 .none = .ref tp) (h6 : reRawNat (fs.getD 6 .none) = 0)
    (h2 : reRawNat (fs.getD 2 .none) = 0) (ht : s.heap.get? tp = some ot) (htd : ot.data = .seq items n) (hc : (items.map reRawOf).map (·.toNat) = code) (hx : okS code x = true) (hl : x.cps.size < 1000) (H : Q .none s) :
    wpAny (model prog w) A (call (.builtin "re.Pattern.search") [.ref p, .str x t]) Q E s := by
  refine wpAny_call_entry slot_search ⟨_, hp, hpc⟩ entry_search ?_ (args_search_2 _ _)
  show wpAny _ _ (reTarget "re.Pattern.search" "search" ⟨[.ref p, .str x t], []⟩ >>= fun t => reAnswer t (Sre.forSearch t.code t.text t.groups t.pos t.lim false)) _ _ s
  refine wpAny_bind ?_
  unfold reTarget
  dsimp only
  rw [named_eq]
  refine wpAny_bind (wpAny_pure ?_)
  dsimp only
  refine wpAny_bind (wpAny_pure ?_)
  refine wpAny_bind (wpAny_pure ?_)
  refine wpAny_bind (wpAny_fieldsOf hp hpd ?_)
  refine wpAny_bind (m := reTextOf (.str x t)) (wpAny_of_eq (a := (x.cps, 0)) (by rfl) ?_)
  dsimp only
  rw [h6]
  rw [if_neg (by decide), if_neg (by decide), h5]
  refine wpAny_bind (m := reNoCollectionInside (.str x t) 0) (wpAny_of_eq (a := ()) (by rfl) ?_)
  refine wpAny_bind (m := reRawItems (.ref tp)) ?_
  unfold reRawItems
  refine wpAny_bind (wpAny_seqItems ht htd (wpAny_pure ?_))
  refine wpAny_pure ?_
  dsimp only
  rw [show (Array.map (fun x => x.toNat) (((some items : Option (Array Value)).getD #[]).map reRawOf)) = code from hc, h2, show min (Int.toNat 0) x.cps.size = 0 from Nat.zero_min _, show min (2 ^ 63 - 1 : Int).toNat x.cps.size = x.cps.size from Nat.min_eq_right (by (first | lia | omega))]
  unfold reAnswer
  refine wpAny_bind (run_none hx ?_)
  exact wpAny_pure ⟨_, rfl, H⟩
end
section
variable {w : World} {A : Around} {s₀ : Shared} {h : Heap} {tk : Nat} {loose : List Str} {mean : ExcName → Option Value} {mg mb : Str → Option Value} {Q : Value → Shared → Prop}
theorem search_nm (G : Gd w loose mean mg mb h) {x : Str} {t : Tok} (hx : okS nmCode x = true) (hl : x.cps.size < 1000) (H : Q .none (St s₀ h tk)) : wpAny (model MP w) A (call (.builtin "re.Pattern.search") [.ref 146, .str x t]) Q No (St s₀ h tk) :=
  r_search (s := St s₀ h tk) (G.K 146 _ (by rfl)) (by rfl) (by rfl) (by rfl) (by rfl) (by rfl) (G.K 145 _ (by rfl)) (by rfl) (code := nmCode) (by decide +kernel) hx hl H
theorem search_vl (G : Gd w loose mean mg mb h) {x : Str} {t : Tok} (hx : okS vlCode x = true) (hl : x.cps.size < 1000) (H : Q .none (St s₀ h tk)) : wpAny (model MP w) A (call (.builtin "re.Pattern.search") [.ref 151, .str x t]) Q No (St s₀ h tk) :=
  r_search (s := St s₀ h tk) (G.K 151 _ (by rfl)) (by rfl) (by rfl) (by rfl) (by rfl) (by rfl) (G.K 150 _ (by rfl)) (by rfl) (code := vlCode) (by decide +kernel) hx hl H
theorem mth_search {p : Addr} {o : Obj} {Q : Value × List Value → Shared → Prop} {pl : Sem Bool} (e : h.get? p = some o) (hc : o.cls = .type "re.Pattern") (hd : o.dict = none) (H : Q (.builtin "re.Pattern.search", [.ref p]) (St s₀ h tk)) :
    wpAny (model MP w) A (getMethod (.ref p) "search" pl) Q No (St s₀ h tk) := by
  have hT : (St s₀ h tk).TypeIs (.ref p) "re.Pattern" := ⟨_, e, hc⟩
  unfold getMethod
  refine wpAny_bind (wpAny_specialOf hT pat_ga ?_)
  show wpAny _ A (if (Manifest.canonical "object.__getattribute__" != "object.__getattribute__") = true then _ else _) Q _ _
  rw [show (Manifest.canonical "object.__getattribute__" != "object.__getattribute__") = false from by decide +kernel, if_neg Bool.false_ne_true]
  refine wpAny_bind (wpAny_specialOf hT pat_noga ?_)
  refine wpAny_bind (wpAny_specialOf hT slot_search.lookup ?_)
  refine wpAny_bind (wpAny_of_eq type_search ?_)
  refine wpAny_bind (wpAny_load e ?_)
  rw [hd]
  exact wpAny_bind (wpAny_rule (wpAny_pure H))
end
end Mine
end
section
open PySem PySem.W PySem.Calls PyProof.Rows PySem.Spec
namespace Mine
noncomputable abbrev hdD (hs : Int) (k : Nat) (v : Value) : Obj := { cls := .type "dict", dict := none, data := .dict #[⟨hs, .str "_headers" k, v⟩] 1, slots := #[] }
/-- a Headers that stands: x with its dict dx, whose list is l -/
noncomputable def Hd (h : Heap) (x dx l : Addr) : Prop := h.get? x = some (instObj 280 dx) ∧ ∃ hs k, h.get? dx = some (hdD hs k (.ref l))
theorem Hd.keeps {h h' : Heap} {x dx l : Addr} (H : Hd h x dx l) (k : Kp h h') : Hd h' x dx l := ⟨k _ _ H.1, let ⟨a, b, e⟩ := H.2; ⟨a, b, k _ _ e⟩⟩
section
variable {prog : Program} {w : World} {A : Around} {s₀ : Shared} {g h : Heap} {tk : Nat} {L x dx l : Addr} {lc : List (Str × Value)} {N : Ld} {v : Value} {loose : List Str} {mean : ExcName → Option Value} {mg mb : Str → Option Value}
theorem Hd.inst {hs : Int} {k : Nat} (e1 : h.get? x = some (instObj 280 dx)) (e2 : h.get? dx = some (hdD hs k v)) : InstAt h x (instObj 280 dx) 280 (some (hdD hs k v)) := ⟨e1, rfl, rfl, e2⟩
theorem inst0 (e1 : h.get? x = some (instObj 280 dx)) (e2 : h.get? dx = some emptyDict) : InstAt h x (instObj 280 dx) 280 (some emptyDict) := ⟨e1, rfl, rfl, e2⟩
/-- self._headers = v, the first time -/
theorem r_setH {Q : Unit → Shared → Prop} (G : Gd w loose mean mg mb g) (F : Fm g L lc ((dx, emptyDict) :: (x, instObj 280 dx) :: N) h)
    (H : ∀ hs k h' tk', tk ≤ tk' → Fm g L lc ((dx, hdD hs k v) :: (x, instObj 280 dx) :: N) h' → Q () (St s₀ h' tk')) : wpAny (model MP w) A (setAttr (.ref x) "_headers" v) Q No (St s₀ h tk) := by
  have D := F.of (q := (dx, emptyDict)) (.head _)
  have X : (Mine.hd.heap_1 w.params).In (St s₀ h tk).heap := G.K.keeps F.keep
  have I := inst0 (F.of (q := (x, instObj 280 dx)) (.tail _ (.head _))) D
  refine set_plain X I (by kernel_rfl) ?_
  refine osa_open (s := { St s₀ h tk with toks := (St s₀ h tk).toks + 1 }) X I (by kernel_rfl) (r := none) (by kernel_rfl) fun b => ?_
  obtain ⟨cd, hc, hd'⟩ : ∃ cd, clsIn (Mine.hd.heap_1 w.params) 280 = some cd ∧ cd.hasDict = true := ⟨_, by rfl, by rfl⟩
  refine wpAny_bind (wpAny_pure (wpAny_bind (wpAny_bind (wpAny_loadPart (F.of (q := (x, instObj 280 dx)) (.tail _ (.head _))) (wpAny_bind (looks_clsIn X hc _ _ _ _ (fun _ _ e => e) ?_))))))
  rw [hd']
  refine wpAny_pure (a := some dx) (wpAny_bind (wpAny_pure (wpAny_bind ?_)))
  unfold nsSet
  refine wpAny_bind (wpAny_bind (wpAny_askSetting (wpAny_pure (wpAny_bind (wpAny_mkText (wpAny_bind (wpAny_loadPart D ?_)))))))
  dsimp only
  rw [if_neg (by decide +kernel)]
  generalize hH : (if (Str.ofString "_headers").cps.isEmpty = true then (0 : Int) else reduceHash ((model MP w).w.params.strHash (Str.ofString "_headers").cps)) = hs
  have D' : (h.update dx (Obj.putName (Str.ofString "_headers") hs (.str (Str.ofString "_headers") (tk + 1 + 1)) v)).get? dx = some (hdD hs (tk + 1 + 1) v) := Heap.get?_update_self _ D rfl
  have F' := F.upd (Heap.SameBut.update (h := h) (a := dx) ..) D'
  refine wpAny_updatePart D ?_
  refine wpAny_bind (wpAny_lookBehind D' (pastItsLine_dict (by show 1 ≤ sizeLine + 1; decide)) ?_)
  exact wpAny_pure (H hs (tk + 1 + 1) _ (tk + 2) (by (first | lia | omega)) F')
end
section
variable {w : World} {s₀ : Shared} {h : Heap} {tk : Nat} {loose : List Str} {mean : ExcName → Option Value} {mg mb : Str → Option Value} {dp un : Nat} {fr : Option (List Env)} {gd : Option (List Code)}
theorem enterCode {name qual : Str} {params : Arguments} {body : List Stmt} {scope : Scope} {dV kV doc pm cdv ct oc : Value} {an od : Option Addr} {osl : Array (Option Value)} {f : Addr} {vs : List Value} {kw : List (Str × Value)} {binds : List (Str × Value)} {R : Result → Shared → Prop} {g : Heap} {N : Ld} (l₀ : List (Str × Value))
    (G : Gd w loose mean mg mb g) (kg : Kp g h) (hN : ∀ q ∈ N, h.get? q.1 = some q.2 ∧ g.get? q.1 = none) (nd : (N.map (·.1)).Nodup)
    (ho : (hd.heap_1 w.params).lookup f = some ⟨oc, od, .func (fnOf name qual params body scope dV kV doc pm an cdv ct), osl⟩) (hcd : codeIn (hd.heap_1 w.params) cdv qual = true) (hroom : dp < recursionLimit)
    (hbind : BindsTo (St s₀ h tk) (fnOf name qual params body scope dV kV doc pm an cdv ct) ⟨vs, kw⟩ binds) (hkind : (binds.all fun y => scope.names.lookup y.1 == some .local || scope.names.lookup y.1 == some .cell) = true)
    (hnd : ((cellsFrom 0 scope.names []).map (·.1)).Nodup) (hl : ∀ L, bindL (envOfC qual scope L f cdv).kindOf binds (fun _ => none) = lk l₀)
    (H : ∀ fr' L h₁ tk₁ Cs, tk ≤ tk₁ → CellsAre (bindC (envOfC qual scope L f cdv).kindOf binds fun _ => none) (cellsFrom (L + 1) scope.names []) Cs → Fm g L l₀ (Cs ++ N) h₁ →
      wpAny (model PySem.Challenge.rw_wc0024_01.row.prog w) (Ar (dp + 1) (un + 3) fr' gd) (execs body (envOfC qual scope L f cdv))
        (fun fl s' => R (.ok (.ret (match fl with | .ret v => v | _ => .none))) s') No (St s₀ h₁ tk₁))
    (hco : scope.isCoroutine = false) (hgen : scope.isGenerator = false) (hk : scope.kind = .function) : codeAny (model PySem.Challenge.rw_wc0024_01.row.prog w) (Ar dp un fr gd) (.call (.ref f) ⟨vs, kw⟩) R (St s₀ h tk) := by
  refine (codeAny_call_function hroom (kg _ _ (G.K _ _ ho)) rfl hco hgen rfl (codeRec_of (G.K.keeps kg) hcd) (hbind _ _ _ _ ?_))
  refine wpAny_with_toks (n := tk + 1) (Nat.le_refl _) (wpAny_newFunctionEnv_cells hk (kindsX hkind _) fun env' he s' x ht => ?_)
  subst he
  refine ⟨((G.T.nolimit.keeps kg)).keeps x.toInCall.keep, codeAny_func ?_⟩
  obtain ⟨h₁, tk', rfl, _⟩ := x.done
  have hk₁ := x.toInCall.keep
  obtain ⟨Cs, NC, Y⟩ := Cl.news (h₀ := (St s₀ h tk).heap) (Nat.le_refl _) fun n c hm => ⟨x.cell n c (lookup_of_mem_nodup (cellsFrom_names scope.names 0 ((St s₀ h tk).heap.objs.size + 1) [] [] rfl ▸ hnd) hm), x.above n c hm⟩
  have ht' : tk + 1 ≤ tk' := ht
  have hL : h.get? h.objs.size = none := Heap.get?_none_of_le (Nat.le_refl _)
  obtain ⟨cn, cm⟩ := cells_nodup Y x.apart
  have F : Fm g h.objs.size l₀ (Cs ++ N) h₁ := by
    refine ⟨?_, fun b o e => hk₁ b o (kg b o e), kg_none kg hL, fun q hq => ?_, ?_⟩
    · have := x.toInCall.ns
      rw [show newEnv scope (St s₀ h tk).heap.objs.size mainGlobals (cellsFrom ((St s₀ h tk).heap.objs.size + 1) scope.names []) (qual ++ ".<locals>.") (some f) cdv none builtinsNs = envOfC qual scope h.objs.size f cdv from rfl] at this
      rw [← hl]; exact this
    · rcases List.mem_append.mp hq with hq | hq
      · exact ⟨(NC q hq).1, (NC q hq).2.1, kg_none kg (NC q hq).2.2⟩
      · refine ⟨hk₁ _ _ (hN q hq).1, (fun z => ?_), (hN q hq).2⟩
        have := (hN q hq).1
        rw [z, hL] at this; cases this
    · rw [List.map_append]
      refine List.nodup_append.mpr ⟨cn, nd, fun a ha b hb e => ?_⟩
      obtain ⟨p, hp, rfl⟩ := List.mem_map.mp ha
      obtain ⟨q, hq, rfl⟩ := List.mem_map.mp hb
      have z := (NC p hp).2.2
      rw [e] at z
      have y : h.get? q.1 = some q.2 := (hN q hq).1
      rw [show (St s₀ h tk).heap = h from rfl, y] at z; cases z
  rw [show ({ St s₀ h tk with heap := h₁, toks := tk' } : Shared) = St s₀ h₁ (tk' - 1) from toks_back ht']
  exact wpAny_mono (H _ h.objs.size h₁ (tk' - 1) Cs (by (first | lia | omega)) Y F) (fun _ _ q => q) fun _ _ q => q.elim
example (C : Addr) : ∃ dp' un' fr' gd', (Ar dp un fr gd).under (.builtin "type.__call__" ⟨.ref C :: [], []⟩) = Ar dp' un' fr' gd' := ⟨_, _, _, _, rfl⟩
end
end Mine
end
section
open PySem PySem.W PySem.Calls PyProof.Rows PySem.Spec
namespace Mine
section
variable {prog : Program} {w : World} {A : Around} {s₀ : Shared} {g h : Heap} {tk : Nat} {L x dx ax : Addr} {l : List (Str × Value)} {N : Ld} {v : Value} {env : Env} {loose : List Str} {mean : ExcName → Option Value} {mg mb : Str → Option Value}
/-- self._headers -/
theorem r_getH {lx : Addr} {Q : Value → Shared → Prop} {e : Bool} (G : Gd w loose mean mg mb g) (kp : Kp g h) (Hh : Hd h x dx lx) (H : ∀ tk', tk ≤ tk' → Q (.ref lx) (St s₀ h tk')) : wpAny (model MP w) A (getAttr (.ref x) "_headers" e) Q No (St s₀ h tk) := by
  obtain ⟨e1, hs, k, e2⟩ := Hh
  have X : (Mine.hd.heap_1 w.params).In (St s₀ h tk).heap := G.K.keeps kp
  exact get_value (s := St s₀ h tk) X (Hd.inst e1 e2) (by kernel_rfl) (by kernel_rfl) (by kernel_rfl) (H (tk + 1) (by (first | lia | omega)))
/-- a method of a Headers -/
theorem r_mthH {lx f : Addr} {name : Str} {Q : Value × List Value → Shared → Prop} {pl : Sem Bool} (G : Gd w loose mean mg mb g) (kp : Kp g h) (Hh : Hd h x dx lx)
    (hf : findIn (Mine.hd.heap_1 w.params) (.ref 280) name = some (some (.ref f))) (ht : typeIn (Mine.hd.heap_1 w.params) (.ref f) = some (.type "function")) (hn : ∀ hs k, shadowIn (some (hdD hs k (.ref lx))) name = some false)
    (H : Q (.ref f, [.ref x]) (St s₀ h tk)) : wpAny (model MP w) A (getMethod (.ref x) name pl) Q No (St s₀ h tk) := by
  obtain ⟨e1, hs, k, e2⟩ := Hh
  have X : (Mine.hd.heap_1 w.params).In (St s₀ h tk).heap := G.K.keeps kp
  exact method_fn (s := St s₀ h tk) X (Hd.inst e1 e2) (by kernel_rfl) (by kernel_rfl) hf ht (hn _ _) H
end
end Mine
end
section
open PySem PySem.W PySem.Calls PyProof.Rows PySem.Spec
namespace Mine
theorem wp_alloc {α : Type} {K : Frag} {M : Model} {A : Around} {E : Value → Shared → Prop} {Q : α → Shared → Prop} {s : Shared} {o : Obj} (X : K.In s.heap) :
    ∀ (t : Sem α) (g : Addr → Sem α), peekA K ⟨M.prog, M.w.params⟩ t = some (o, g) → wpAny M A (g s.heap.objs.size) Q E { s with heap := s.heap.push o } → wpAny M A t Q E s := by
  intro t
  induction t with
  | rule _ k ih => intro g e q Γ p hΓ; exact ih () g e q Γ p hΓ
  | point _ k ih => intro g e q Γ p hΓ; exact ih () g e q Γ p hΓ
  | ask k ih => intro g e q Γ p hΓ; exact ih _ g e q Γ p hΓ
  | load a _ k ih =>
    intro g e q Γ p hΓ
    simp only [peekA] at e
    split at e
    · rename_i ob ho; exact ⟨ob, X _ _ ho, ih ob g e q Γ p hΓ⟩
    · cases e
  | alloc o' k =>
    intro g e q
    simp only [peekA, Option.some.injEq, Prod.mk.injEq] at e
    obtain ⟨rfl, rfl⟩ := e
    exact nd_alloc q
  | _ => intro g e; cases e
section
variable {w : World} {s₀ : Shared} {h : Heap} {tk : Nat} {loose : List Str} {mean : ExcName → Option Value} {mg mb : Str → Option Value} {dp un : Nat} {fr : Option (List Env)} {gd : Option (List Code)}
theorem enterKw {name qual : Str} {params : Arguments} {body : List Stmt} {scope : Scope} {dV kV doc pm cdv ct oc : Value} {an od : Option Addr} {osl : Array (Option Value)} {f : Addr} {vs : List Value} {kw : List (Str × Value)} {binds : Addr → List (Str × Value)} {g₁ : Addr → Sem (List (Str × Value))} {Q : Value → Shared → Prop} {g : Heap} {N : Ld}
    (G : Gd w loose mean mg mb g) (kg : Kp g h) (hN : ∀ q ∈ N, h.get? q.1 = some q.2 ∧ g.get? q.1 = none) (nd : (N.map (·.1)).Nodup)
    (ho : (hd.heap_1 w.params).lookup f = some ⟨oc, od, .func (fnOf name qual params body scope dV kV doc pm an cdv ct), osl⟩) (hcd : codeIn (hd.heap_1 w.params) cdv qual = true) (hroom : dp < recursionLimit)
    (hp : peekA (hd.heap_1 w.params) ⟨MP, w.params⟩ (bindArgs (fnOf name qual params body scope dV kV doc pm an cdv ct) ⟨vs, kw⟩) = some (emptyDict, g₁)) (hbd : ∀ D, g₁ D = pure (binds D))
    (hloc : ∀ D, ((binds D).all fun y => scope.names.lookup y.1 == some .local) = true)
    (H : ∀ fr' L D h₁ tk₁, tk ≤ tk₁ → (D == sysModules) = false → Fm g L (binds D).reverse ((D, emptyDict) :: N) h₁ →
      wpAny (model PySem.Challenge.rw_wc0024_01.row.prog w) (Ar (dp + 1) (un + 3) fr' gd) (execs body (envOf qual scope L f cdv))
        (fun fl s' => Q (match fl with | .ret v => v | _ => .none) s') No (St s₀ h₁ tk₁))
    (hco : scope.isCoroutine = false) (hgen : scope.isGenerator = false) (hk : scope.kind = .function) (hcell : ∀ x ∈ scope.names, x.2 ≠ .cell) :
    wpAny (model PySem.Challenge.rw_wc0024_01.row.prog w) (Ar dp un fr gd) (call (.ref f) vs kw) Q No (St s₀ h tk) := by
  refine wpAny_call (codeAny_call_function hroom (kg _ _ (G.K _ _ ho)) rfl hco hgen rfl (codeRec_of (G.K.keeps kg) hcd) ?_)
  refine wp_alloc (M := model MP w) (s := St s₀ h tk) (G.K.keeps kg) _ _ hp ?_
  have kd : Kp h (h.push emptyDict) := kp_push h _
  rw [hbd]
  refine wpAny_pure ?_
  refine wpAny_newFunctionEnv hcell (fun y hy => beq_iff_eq.mp (List.all_eq_true.mp (hloc _) y hy)) (fun h' hns hs => ?_) hk
  replace hs : Heap.SameBut (h.push emptyDict).objs.size ((h.push emptyDict).push { cls := .type "frame", data := .dict #[] }) h' := hs
  have k1 : Kp (h.push emptyDict) h' := fun b o e => sb_get hs (Nat.ne_of_lt (Heap.lt_size e)) (kp_push _ _ _ _ e)
  have k2 : Kp h h' := fun b o e => k1 _ _ (kd _ _ e)
  refine ⟨(G.T.nolimit.keeps kg).keeps k2, codeAny_func ?_⟩
  have hL : h.get? (h.push emptyDict).objs.size = none := kg_none kd (none_size _)
  have hD : h.get? h.objs.size = none := none_size h
  have eD := (new_push h emptyDict).2
  have F : Fm g (h.push emptyDict).objs.size (binds h.objs.size).reverse ((h.objs.size, emptyDict) :: N) h' := by
    refine ⟨hns, fun b o e => k2 b o (kg b o e), kg_none kg hL, fun q hq => ?_, ?_⟩
    · rcases List.mem_cons.mp hq with rfl | hq
      · exact ⟨k1 _ _ eD, Nat.ne_of_lt (Heap.lt_size eD), kg_none kg hD⟩
      · refine ⟨k2 _ _ (hN q hq).1, (fun z => ?_), (hN q hq).2⟩
        have := (hN q hq).1
        rw [z, hL] at this; cases this
    · rw [List.map_cons]
      refine List.nodup_cons.mpr ⟨fun hm => ?_, nd⟩
      obtain ⟨q, hq, e⟩ := List.mem_map.mp hm
      have := (hN q hq).1
      rw [e, hD] at this; cases this
  have e : ({ St s₀ h tk with heap := h', toks := (St s₀ h tk).toks + (binds h.objs.size).length } : Shared) = St s₀ h' (tk + (binds h.objs.size).length) := by
    show ({ s₀ with heap := h', toks := tk + 1 + (binds h.objs.size).length } : Shared) = { s₀ with heap := h', toks := tk + (binds h.objs.size).length + 1 }
    rw [Nat.add_right_comm]
  have := H (fr.map (envOf qual scope (h.push emptyDict).objs.size f cdv :: ·)) (h.push emptyDict).objs.size h.objs.size h' (tk + (binds h.objs.size).length) (by (first | lia | omega)) (beq_eq_false_iff_ne.mpr (Nat.ne_of_gt (modules_low (G.T.nolimit.keeps kg)))) F
  rw [← e] at this
  exact wpAny_mono this (fun _ _ q => q) fun _ _ q => q.elim
end
end Mine
end
section
open PySem PySem.W PySem.Calls PyProof.Rows PySem.Spec
namespace Mine
section
variable {prog : Program} {w : World} {A : Around} {s₀ : Shared} {g h : Heap} {tk : Nat} {L D I : Addr} {l : List (Str × Value)} {N : Ld} {v : Value} {env : Env}
/-- sep.join([x]) is x -/
theorem r_join1 {o : Obj} {sep x : Str} {t u : Tok} {Q : Value → Shared → Prop} {E : Value → Shared → Prop} (e : h.get? D = some o) (hl : IsLst o [.str x u]) (H : Q (.str x u) (St s₀ h tk)) :
    wpAny (model prog w) A (call (.builtin "str.join") [.str sep t, .ref D]) Q E (St s₀ h tk) := by
  refine wpAny_call_entry PySem.F.slot_str_join (typeIs_str _ sep t) PySem.F.entry_str_join ?_ (PySem.F.args_str_join_2 _ _)
  unfold Builtin.«str.join»
  refine wpAny_bind (wpAny_of_eq (a := (.str sep t, sep, .ref D)) (by rfl) ?_)
  dsimp only
  obtain ⟨hc, n, hd⟩ := hl
  refine wpAny_bind (wpAny_typeOf (T := "list") ⟨o, e, hc⟩ ?_)
  rw [if_pos (by decide)]
  refine wpAny_bind (wpAny_seqItems (n := n) e hd ?_)
  refine wpAny_bind (wpAny_pure ?_)
  show wpAny _ _ (if Builtin.Str.isExactStr (.str x u) = true then (rule "str.join.same-object" >>= fun _ => ret (.str x u)) else _) _ _ _
  rw [if_pos (show Builtin.Str.isExactStr (.str x u) = true from rfl)]
  exact wpAny_bind (wpAny_rule (wpAny_pure ⟨_, rfl, H⟩))
theorem dAt (e : h.get? D = some emptyDict) : h.DictAt (strKind prog w) D [] 0 := by
  refine ⟨emptyDict, #[], e, ?_, rfl, ?_, ?_, List.nodup_nil⟩
  · exact ⟨rfl, rfl, rfl⟩
  · intro e he; simp at he
  · exact .nil
theorem mth_items {o : Obj} {Q : Value × List Value → Shared → Prop} {pl : Sem Bool} (e : h.get? D = some o) (hc : o.cls = .type "dict") (hd : o.dict = none) (H : Q (.builtin "dict.items", [.ref D]) (St s₀ h tk)) :
    wpAny (model prog w) A (getMethod (.ref D) "items" pl) Q No (St s₀ h tk) :=
  getMethod_builtin (T := "dict") ⟨_, e, hc⟩ PySem.F.plainAttrs_dict PySem.F.slot_dict_items PySem.F.type_dict_items (fun a ha => by cases ha; exact ⟨o, e, hd⟩) H
theorem r_items {Q : Value → Shared → Prop} (e : h.get? D = some emptyDict) (hs : (D == sysModules) = false) (H : ∀ V h', Kp h h' → h'.IsItemsView V D → Q (.ref V) (St s₀ h' tk)) : wpAny (model prog w) A (call (.builtin "dict.items") [.ref D]) Q No (St s₀ h tk) := by
  refine wpAny_call_entry PySem.F.slot_dict_items ⟨_, e, rfl⟩ PySem.F.entry_dict_items ?_ (PySem.F.args_dict_items_1 _)
  unfold Builtin.«dict.items»
  refine wpAny_bind ?_
  unfold Builtin.Dict.noArgs
  refine wpAny_bind (wpAny_notOrdered_dict (s := St s₀ h tk) ⟨_, e, rfl⟩ ?_)
  show wpAny _ _ (pure D) _ _ _
  refine wpAny_pure ?_
  show wpAny _ _ (Builtin.Dict.showsAll D >>= _) _ _ _
  unfold Builtin.Dict.showsAll
  rw [if_neg (by rw [hs]; exact Bool.false_ne_true)]
  refine wpAny_bind (wpAny_pure ?_)
  exact wpAny_bind (wpAny_newObj_type (wpAny_pure ⟨_, rfl, H h.objs.size _ (kp_push _ _) ⟨_, Heap.get?_push_size _ rfl, rfl, rfl⟩⟩))
theorem for_items0 {Q : Flow → Shared → Prop} {target : Expr} {body : List Stmt} {o : Obj} (hh : A.handled = none) (F : Fm g L l ((I, o) :: N) h) (e : h.get? D = some emptyDict) (ho : o = { cls := .type "dict_itemiterator", dict := none, data := .fields #[.none, .bool false, .ref D, .int 0 0, .int 0 0, .int 0 0, .none, .none], slots := #[] })
    (H : ∀ h', Fm g L l N h' → Q .next (St s₀ h' tk)) :
    codeAny (model prog w) A (.forLoop target (.ref I) body [] env) (fun r s' => match r with | .ok f => Q f s' | .error e => cameBackBy (model prog w) A env No e s') (St s₀ h tk) := by
  subst ho
  refine codeAny_forLoop_any (fun _ s' => s' = St s₀ h tk) ?_ 0 rfl
  rintro n s rfl
  refine wpAny_mono (wpAny_pyNext_items_end (s := St s₀ h tk) (E := No) (Q := fun r s' => r = none ∧ Q .next s') hh (F.of (q := (I, _)) (.head _)) (dAt (prog := prog) (w := w) e) rfl fun h' he => ⟨rfl, H h' (fm_out F fun b o hb e => he b o (by simpa using hb) e)⟩) (fun r s₁ q => ?_) fun _ _ q => q.elim
  obtain ⟨rfl, q⟩ := q
  exact wpAny_execs_nil q
end
end Mine
end
section
open PySem PySem.W PySem.Calls PyProof.Rows PySem.Spec
namespace Mine
section
variable {prog : Program} {w : World} {A : Around} {s₀ : Shared} {g h : Heap} {tk : Nat} {L x dx ax : Addr} {l : List (Str × Value)} {N : Ld} {v : Value} {env : Env}
noncomputable def SV (s₀ : Shared) (L : Addr) (Q : Value → Shared → Prop) (o vl vu vk : Value) (s₄ : Shared) : Prop :=
  ∃ g l N h tk ax oo vs lo hi k, s₄ = St s₀ h tk ∧ Fm g L l N h ∧ o = .ref ax ∧ h.get? ax = some oo ∧ IsLst oo vs ∧ vs.length ≤ sizeLine ∧ IsPart vl lo ∧ IsPart vu hi ∧ IsPart vk k ∧ k ≠ some 0 ∧
        ∀ D h', Fm g L l ((D, lisO (slicePick vs.toArray lo hi k).toList 0) :: N) h' → Q (.ref D) (St s₀ h' tk)
theorem SV.mk {Q : Value → Shared → Prop} {vl vu vk : Value} {oo : Obj} {vs : List Value} {lo hi k : Option Int} (F : Fm g L l N h) (e : h.get? ax = some oo) (hl : IsLst oo vs) (z : vs.length ≤ sizeLine) (p1 : IsPart vl lo) (p2 : IsPart vu hi) (p3 : IsPart vk k) (h0 : k ≠ some 0)
    (H : ∀ D h', Fm g L l ((D, lisO (slicePick vs.toArray lo hi k).toList 0) :: N) h' → Q (.ref D) (St s₀ h' tk)) : SV s₀ L Q (.ref ax) vl vu vk (St s₀ h tk) := ⟨g, l, N, h, tk, ax, oo, vs, lo, hi, k, rfl, F, rfl, e, hl, z, p1, p2, p3, h0, H⟩
/-- value[lower:upper:step] of a list, whatever value is -/
theorem slcV {value : Expr} {lower upper step : Option Expr} {p pos : Pos} {Q : Value → Shared → Prop} {s : Shared} {ops : Addr → Addr → List Value}
    (H : wpAny (model prog w) A (eval value env) (fun o s₁ => wpAny (model prog w) A (evalPart lower env) (fun vl s₂ => wpAny (model prog w) A (evalPart upper env) (fun vu s₃ => wpAny (model prog w) A (evalPart step env) (SV s₀ env.locals Q o vl vu) No s₃) No s₂) No s₁) No s)
    (hs : ∀ a b, subscripted (.Slice lower upper step p) false (.ref a) (.ref b) = operate (ops a b) (getItem (.ref a) (.ref b)) := by intro _ _; with_unfolding_all rfl) :
    wpAny (model prog w) A (eval (.Subscript value (.Slice lower upper step p) pos) env) Q No s := by
  refine Subscript_ (wpAny_mono H (fun o s₁ q => wpAny_Slice (wpAny_mono q (fun vl s₂ q => wpAny_mono q (fun vu s₃ q => wpAny_mono q (fun vk s₄ q => ?_) fun _ _ q => q) fun _ _ q => q) fun _ _ q => q)) fun _ _ q => q)
  obtain ⟨g, l, N, h, tk, ax, oo, vs, lo, hi, k, rfl, F, rfl, e, hl, hz, p1, p2, p3, h0, H⟩ := q
  have hl' : (St s₀ h tk).heap.IsList ax vs.toArray := hl.is e
  refine kba_turn (value' := .Name "_" ⟨0, 0, 0, 0⟩) (fun _ => rfl) (subscriptTail_ops (T := "list") (hl'.push _).typeIs list_getitem_lookup (wpAny_getItem_list_slice (hl'.push _) (Heap.IsSliceOf.new ..) p1 p2 p3 h0 ?_ (by simpa using hz)) (hs _ _) (fun _ => rfl))
  have F2 := (F.push { cls := .type "slice", data := .fields #[vl, vu, vk] }).push (lisO (slicePick vs.toArray lo hi k).toList 0)
  have F3 := F2.drop 1
  simp only [List.eraseIdx] at F3
  have := H _ _ F3
  simpa [lisO, W.listOf] using this
end
end Mine
end
section
open PySem PySem.W PySem.Calls PyProof.Rows PySem.Spec
namespace Mine
theorem perm_set {q : Addr × Obj} : ∀ (N : Ld) (k : Nat), k < N.length → (q :: N.eraseIdx k).Perm (N.set k q)
  | [], k, h => absurd h (Nat.not_lt_zero _)
  | p :: N, 0, _ => .refl _
  | p :: N, k + 1, h => (List.Perm.swap ..).trans ((perm_set N k (Nat.lt_of_succ_lt_succ h)).cons p)
/-- an entry of the ledger, changed in its place -/
theorem Fm.setIdx {g h h' : Heap} {L a : Addr} {o o' : Obj} {l : List (Str × Value)} {N : Ld} (F : Fm g L l N h) (k : Nat) (hq : N[k]? = some (a, o)) (kx : KpX [a] h h') (e : h'.get? a = some o') : Fm g L l (N.set k (a, o')) h' :=
  ((F.pull k hq).updX kx e).perm (perm_set N k (List.getElem?_eq_some_iff.mp hq).1)
end Mine
end
section
open PySem PySem.W PySem.Calls PyProof.Rows PySem.Spec
namespace Mine
section
variable {prog : Program} {w : World} {A : Around} {s₀ : Shared} {g h : Heap} {tk : Nat} {L ax : Addr} {l : List (Str × Value)} {N : Ld} {v : Value} {o : Obj} {vs : List Value} {ns : List Int} {Q : Value → Shared → Prop} {B B' : Nat}
theorem ints_items (hi : IntsAre vs ns) : ∃ xs : Array (Int × Tok), vs.toArray = intItems xs ∧ preSum (numAt xs) xs.size = ns.sum := by
  obtain ⟨xs, hx⟩ := hi.allInts.items
  refine ⟨xs, hx, ?_⟩
  have hn : numsOf vs.toArray.toList = ns := by rw [show vs.toArray.toList = vs from rfl, hi.numsOf]
  rw [hx, nums_intItems] at hn
  rw [preSum_eq, List.take_of_length_le (by simp), hn]
theorem r_sumL (hh : A.handled = none) (F : Fm g L l N h) (e : h.get? ax = some o) (hl : IsLst o vs) (hi : IntsAre vs ns) (H : ∀ t h' tk', tk ≤ tk' → Kp h h' → Fm g L l N h' → Q (.int ns.sum t) (St s₀ h' tk')) :
    wpAny (model prog w) A (call (.builtin "sum") [.ref ax]) Q No (St s₀ h tk) := by
  obtain ⟨xs, hx, hs⟩ := ints_items hi
  have hl' : (St s₀ h tk).heap.IsList ax (intItems xs) := hx ▸ hl.is e
  refine wpAny_with_toks (n := tk + 1) (Nat.le_refl _) (sum_intListG (Q := fun r s' => tk + 1 ≤ s'.toks → Q r s') hh hl' fun h' t t' hk => ?_)
  intro ht
  have ht' : tk + 1 ≤ t := ht
  rw [toks_back ht, hs]
  exact H _ _ _ (by (first | lia | omega)) hk (F.kp hk)
theorem r_sumT {n : Nat} (hh : A.handled = none) (F : Fm g L l N h) (e : h.get? ax = some (tupO vs n)) (hi : IntsAre vs ns) (H : ∀ t h' tk', tk ≤ tk' → Kp h h' → Fm g L l N h' → Q (.int ns.sum t) (St s₀ h' tk')) :
    wpAny (model prog w) A (call (.builtin "sum") [.ref ax]) Q No (St s₀ h tk) := by
  obtain ⟨xs, hx, hs⟩ := ints_items hi
  have hl' : (St s₀ h tk).heap.IsTuple ax (intItems xs) := hx ▸ ⟨_, e, rfl, n, rfl⟩
  refine wpAny_with_toks (n := tk + 1) (Nat.le_refl _) (ktm_sumG (Q := fun r s' => tk + 1 ≤ s'.toks → Q r s') hh hl' fun h' t t' hk => ?_)
  intro ht
  have ht' : tk + 1 ≤ t := ht
  rw [toks_back ht, hs]
  exact H _ _ _ (by (first | lia | omega)) hk (F.kp hk)
theorem r_sorted (F : Fm g L l N h) (e : h.get? ax = some o) (hl : IsLst o vs) (hi : IntsAre vs ns) (h64 : vs.length < 64)
    (H : ∀ D n vs' ns' h', Kp h h' → h.get? D = none → IntsAre vs' ns' → ns'.Perm ns → ns'.Pairwise (· ≤ ·) → Fm g L l ((D, lisO vs' n) :: N) h' → Q (.ref D) (St s₀ h' tk)) :
    wpAny (model prog w) A (call (.builtin "sorted") [.ref ax]) Q No (St s₀ h tk) := by
  refine sorted_ints (s := St s₀ h tk) (hl.is e) hi h64 fun out ns' h1 h2 h3 => ?_
  obtain ⟨n, hn⟩ := sortedAll_at h vs out
  have k : Kp h (sortedAll h vs out) := fun _ _ => sortedAll_old
  have hD : h.get? (h.objs.size + 1) = none := Heap.get?_none_of_le (Nat.le_succ _)
  have e2 : seqObj "list" out n = lisO out.toList n := by simp [lisO, W.listOf, seqObj]
  rw [e2] at hn
  exact H _ n out.toList ns' _ k hD h1 h2 h3 (F.new k hD hn)
theorem r_listc (F : Fm g L l N h) (e : h.get? ax = some o) (hl : IsLst o vs) (hsz : vs.length ≤ sizeLine) (H : ∀ D n h', Kp h h' → Fm g L l ((D, lisO vs n) :: N) h' → Q (.ref D) (St s₀ h' tk)) :
    wpAny (model prog w) A (call (.type "list") [.ref ax]) Q No (St s₀ h tk) := by
  obtain ⟨hc, n, hd⟩ := hl
  exact call_list_seq (s := St s₀ h tk) (hsz := by simpa using hsz) ax (.inl rfl) e hc hd fun h' c' hk hD => H _ c' h' hk (F.new hk (none_size h) hD)
theorem r_max2 {a b : Int} {t u : Tok} (hh : A.handled = none) (F : Fm g L l N h) (H : ∀ t h' tk', tk ≤ tk' → Fm g L l N h' → Q (.int (max a b) t) (St s₀ h' tk')) :
    wpAny (model prog w) A (call (.builtin "max") [.int a t, .int b u]) Q No (St s₀ h tk) := by
  refine wpAny_with_toks (n := tk + 1) (Nat.le_refl _) (max_two_ints (Q := fun r s' => tk + 1 ≤ s'.toks → Q r s') hh fun h' t' hk => ?_)
  intro ht
  have ht' : tk + 1 ≤ t' := ht
  rw [toks_back ht]
  by_cases hab : b > a
  · rw [if_pos hab]
    have := H u h' (t' - 1) (by (first | lia | omega)) (F.kp hk)
    rw [show max a b = b by (first | lia | omega)] at this
    exact this
  · rw [if_neg hab]
    have := H t h' (t' - 1) (by (first | lia | omega)) (F.kp hk)
    rw [show max a b = a by (first | lia | omega)] at this
    exact this
theorem evS {M : Model} {E : Value → Shared → Prop} {s : Shared} {e : Expr} {env : Env} (H : wpAny M A (eval e env) Q E s) : wpAny M A (evalPart (some e) env) Q E s := H
theorem evN {M : Model} {E : Value → Shared → Prop} {s : Shared} {env : Env} (H : Q .none s) : wpAny M A (evalPart none env) Q E s := wpAny_pure H
/-- a text, laid end to end -/
noncomputable def rp (x : Str) (n : Nat) : Str := ⟨(List.replicate n x.cps).foldl (· ++ ·) #[]⟩
theorem r_smul {x : Str} {t u : Tok} {n : Nat} (hn : 1 ≤ n) (hx : x.length * n ≤ 1000) (hx1 : 1 ≤ x.length) (ht : t ≤ tk) (he : rp x 1 = x) (H : ∀ t' tk', tk ≤ tk' → t ≤ t' → t' ≤ tk' → Q (.str (rp x n) t') (St s₀ h tk')) :
    wpAny (model prog w) A (binaryOp .Mult (.str x t) (.int (n : Int) u)) Q No (St s₀ h tk) := by
  have hle : x.length * 1 ≤ x.length * n := Nat.mul_le_mul_left _ hn
  have hle2 : 1 * n ≤ x.length * n := Nat.mul_le_mul_right _ hx1
  have hz : ¬ ((n : Int) < 1) := by (first | lia | omega)
  refine P.mul_str (s := St s₀ h tk) ?_ (fun _ _ => ?_) (fun _ _ => ?_) ?_
  · have h1 : ¬ (n : Int) < -(2 ^ 63 : Int) := by (first | lia | omega)
    have h2 : ¬ (n : Int) ≥ 2 ^ 63 := by (first | lia | omega)
    rw [decide_eq_false h1, decide_eq_false h2]; rfl
  · intro q
    have h3 : (2 ^ 63 - 1 : Int) / n ≥ (2 ^ 63 - 1 : Int) / 1000 := by
      have : (x.length : Int) * n ≤ 1000 := by exact_mod_cast hx
      refine Int.le_ediv_of_mul_le (by (first | lia | omega)) ?_
      have : (n : Int) ≤ 1000 := by (first | lia | omega)
      have h5 : ((2 ^ 63 - 1 : Int) / 1000) * n ≤ ((2 ^ 63 - 1 : Int) / 1000) * 1000 := Int.mul_le_mul_of_nonneg_left this (by decide)
      exact Int.le_trans h5 (by decide)
    have h4 : (1000 : Int) ≤ (2 ^ 63 - 1 : Int) / 1000 := by decide
    (first | lia | omega)
  · rw [Int.toNat_natCast]
    show decide (_ > sizeLine) = false
    have h6 : (1000 : Nat) ≤ sizeLine := by decide
    exact decide_eq_false (by (first | lia | omega))
  · rw [if_neg hz]
    by_cases h1 : n = 1
    · subst h1
      rw [if_pos (by simp)]
      have := H t tk (Nat.le_refl _) (Nat.le_refl _) ht
      rw [he] at this
      exact this
    · rw [if_neg (by
        have : x.length ≠ 0 := by (first | lia | omega)
        have h2 : (n : Int) ≠ 1 := by (first | lia | omega)
        simp [this, h2])]
      refine ⟨?_, ?_⟩
      · show (rp x n).length ≤ sizeLine
        have : (rp x n).length = x.length * n := by
          unfold rp
          show ((List.replicate n x.cps).foldl (· ++ ·) #[]).size = x.cps.size * n
          have : ∀ (k : Nat) (acc : Array Nat), ((List.replicate k x.cps).foldl (· ++ ·) acc).size = acc.size + x.cps.size * k := by
            intro k
            induction k with
            | zero => intro acc; simp
            | succ k ih => intro acc; rw [List.replicate_succ, List.foldl_cons, ih, Array.size_append, Nat.mul_succ]; (first | lia | omega)
          rw [this]; simp
        rw [this]
        exact Nat.le_trans hx (by decide)
      · exact H (tk + 1) (tk + 1) (Nat.le_succ _) (Nat.le_succ_of_le ht) (Nat.le_refl _)
/-- a tuple and a tuple that is not empty -/
theorem r_tadd {a b : Addr} {vs ws : List Value} {n m : Nat} (F : Fm g L l ((b, tupO ws m) :: N) h) (ha : h.get? a = some (tupO vs n)) (hw : ws ≠ []) (hsz : vs.length + ws.length ≤ sizeLine)
    (H : ∀ D k h', Kp h h' → Fm g L l ((D, tupO (vs ++ ws) k) :: N) h' → Q (.ref D) (St s₀ h' tk)) :
    wpAny (model prog w) A (binaryOp .Add (.ref a) (.ref b)) Q No (St s₀ h tk) := by
  have hb := F.of (.head _)
  have e : vs.toArray ++ ws.toArray = (vs ++ ws).toArray := by simp
  by_cases hv : vs = []
  · refine concat_meets (s := St s₀ h tk) ⟨_, ha, rfl⟩ ⟨_, hb, rfl⟩ noFill_tuple_add seq_tuple_add PySem.F.slot_tuple_add PySem.F.entry_tuple_add (PySem.F.args_tuple_add_2 _ _)
      (tuple_addW0 a b vs.toArray ws.toArray n m none none #[] #[] (by simp [hv])) ⟨ha, hb, ?_⟩
    subst hv
    exact H b m h (fun _ _ e => e) F
  · refine concat_meets (s := St s₀ h tk) ⟨_, ha, rfl⟩ ⟨_, hb, rfl⟩ noFill_tuple_add seq_tuple_add PySem.F.slot_tuple_add PySem.F.entry_tuple_add (PySem.F.args_tuple_add_2 _ _)
      (tuple_addW2 a b vs.toArray ws.toArray n m none none #[] #[] (by simpa using hv) (by simpa using hw) (by simpa using hsz)) ⟨ha, hb, ?_⟩
    rw [e]
    have F2 := (F.push (tupO (vs ++ ws) 0)).perm (List.Perm.swap _ _ _)
    exact H _ 0 _ (kp_push _ _) (F2.sub (List.sublist_cons_self _ _))
open Classical in
/-- two values compared by what they bear -/
theorem eq_dd {u v : Value} {d e : Dat} {s : Shared} {E : Value → Shared → Prop} (ra : RD (At s.heap) B u d) (rb : RD (At s.heap) B' v e) (ka : kqdOk 9 d = true) (kb : kqdOk 9 e = true) (hu : A.units + 64 < cLine)
    (H : Q (.bool (decide (d = e))) s) : wpAny (model prog w) A (compareOp .Eq u v) Q E s := by
  obtain ⟨as, ra⟩ := ra.reads 9 ka
  obtain ⟨bs, rb⟩ := rb.reads 9 kb
  have la := kqd_lay 9 d ka
  have lb := kqd_lay 9 e kb
  have q := kqd_eqv 9 d e 9 ka kb
  have e : PyData.eqv (kqdP d) (kqdP e) = decide (d = e) := by
    by_cases hq : d = e
    · rw [decide_eq_true hq]; exact q.mpr hq
    · rw [decide_eq_false hq]; exact Bool.eq_false_iff.mpr fun x => hq (q.mp x)
  refine eq_dataH ra rb ?_ ?_ hu (by rw [e]; exact H)
  · unfold SeqAt.shaped; rw [la.1, Bool.true_and]; exact decide_eq_true (Nat.le_trans la.2 (by decide))
  · unfold SeqAt.shaped; rw [lb.1, Bool.true_and]; exact decide_eq_true (Nat.le_trans lb.2 (by decide))
open Classical in
theorem ne_dd {u v : Value} {d e : Dat} {s : Shared} {E : Value → Shared → Prop} (ra : RD (At s.heap) B u d) (rb : RD (At s.heap) B' v e) (ka : kqdOk 9 d = true) (kb : kqdOk 9 e = true) (hu : A.units + 64 < cLine)
    (H : Q (.bool (!decide (d = e))) s) : wpAny (model prog w) A (compareOp .NotEq u v) Q E s := by
  obtain ⟨as, ra⟩ := ra.reads 9 ka
  obtain ⟨bs, rb⟩ := rb.reads 9 kb
  have la := kqd_lay 9 d ka
  have lb := kqd_lay 9 e kb
  have q := kqd_eqv 9 d e 9 ka kb
  have e : PyData.eqv (kqdP d) (kqdP e) = decide (d = e) := by
    by_cases hq : d = e
    · rw [decide_eq_true hq]; exact q.mpr hq
    · rw [decide_eq_false hq]; exact Bool.eq_false_iff.mpr fun x => hq (q.mp x)
  refine ne_dataH ra rb ?_ ?_ hu (by rw [e]; exact H)
  · unfold SeqAt.shaped; rw [la.1, Bool.true_and]; exact decide_eq_true (Nat.le_trans la.2 (by decide))
  · unfold SeqAt.shaped; rw [lb.1, Bool.true_and]; exact decide_eq_true (Nat.le_trans lb.2 (by decide))
open Classical in
/-- where a value stands in a list -/
theorem r_index {x : Value} {d : Dat} {ds : List Dat} {j : Nat} (e : h.get? ax = some o) (hl : IsLst o vs) (ra : RA (At h) B vs ds) (rx : RD (At h) B' x d) (ka : ∀ d ∈ ds, kqdOk 9 d = true) (kd : kqdOk 9 d = true) (hu : A.units + 64 < cLine)
    (hj : ds[j]? = some d) (hno : ∀ m, m < j → ds[m]? ≠ some d) (hz : vs.length ≤ 1000000) (H : ∀ t tk', tk ≤ tk' → Q (.int (j : Int) t) (St s₀ h tk')) :
    wpAny (model prog w) A (call (.builtin "list.index") [.ref ax, x]) Q No (St s₀ h tk) := by
  obtain ⟨as, rs⟩ := ra.reads 9 ka
  obtain ⟨bs, rx⟩ := rx.reads 9 kd
  have lay : ∀ ds : List Dat, (∀ d ∈ ds, kqdOk 9 d = true) → PyData.canLayAll0 (kqdPs ds) = true ∧ PyData.depthAll (kqdPs ds) ≤ 9 := by
    intro ds
    induction ds with
    | nil => intro _; simp [kqdPs, PyData.canLayAll0, PyData.depthAll]
    | cons d ds hi =>
      intro h
      have h1 := kqd_lay 9 d (h d (.head _))
      have h2 := hi fun e he => h e (.tail _ he)
      simp only [kqdPs, PyData.canLayAll0, PyData.depthAll, h1.1, h2.1, Bool.and_self, true_and]
      have a1 := h1.2
      have a2 := h2.2
      (first | lia | omega)
  have hlay := lay ds ka
  have hd := kqd_lay 9 d kd
  have hmap := SeqAt.readsAll_map (kqdPs ds) vs as hlay.1 rs
  have hps : ∀ (ds : List Dat) (k : Nat), (kqdPs ds)[k]? = (ds[k]?).map kqdP := by
    intro ds
    induction ds with
    | nil => intro k; simp [kqdPs]
    | cons d ds ih => intro k; cases k with
      | zero => simp [kqdPs]
      | succ k => simp [kqdPs, ih]
  have hread : ∀ (k : Nat) (hk : k < vs.length), ∃ d', ds[k]? = some d' ∧ SeqAt.readOf h vs[k] = kqdP d' := by
    intro k hk
    have h1 : (vs.map (SeqAt.readOf h))[k]? = some (SeqAt.readOf h vs[k]) := by simp [hk]
    rw [hmap, hps] at h1
    obtain ⟨d', h2, h3⟩ := Option.map_eq_some_iff.mp h1
    exact ⟨d', h2, h3.symm⟩
  have hjl : j < vs.length := by
    rw [ra.length]
    exact (List.getElem?_eq_some_iff.mp hj).1
  have iff : ∀ (k : Nat) (hk : k < vs.length), PyData.eqv (SeqAt.readOf h vs[k]) (kqdP d) = decide (ds[k]? = some d) := by
    intro k hk
    obtain ⟨d', h2, h3⟩ := hread k hk
    rw [h3, h2]
    have q := kqd_eqv 9 d' d 9 (ka d' (List.mem_of_getElem? h2)) kd
    by_cases hq : d' = d
    · rw [q.mpr hq, hq]; simp
    · rw [Bool.eq_false_iff.mpr fun x => hq (q.mp x)]; simp [hq]
  obtain ⟨cls, dd, data, sl⟩ := o
  obtain ⟨hc, n, hdt⟩ := hl
  simp only at hc hdt
  subst hc hdt
  refine call_meets (s := St s₀ h tk) PySem.F.slot_list_index ⟨_, e, rfl⟩ PySem.F.entry_list_index (PySem.F.args_list_index_2 _ _)
    (SeqAt.list_indexAt ax vs.toArray n dd sl x (fun y => PyData.eqv (SeqAt.readOf h y) (kqdP d)) j (by simpa using hjl) (by (first | lia | omega)) ?_ ?_)
    ⟨e, SeqAt.items_eqAt (by simpa using rs) rx hlay.1 hd.1 (by have := hd.2; (first | lia | omega)), H (tk + 1) (tk + 1) (Nat.le_succ _)⟩
  · have := iff j hjl
    simp only [List.getElem_toArray]
    rw [this, hj]; simp
  · intro m hm hlt
    have hm' : m < vs.length := by simpa using hm
    have := iff m hm'
    simp only [List.getElem_toArray]
    rw [this]
    exact decide_eq_false (hno m hlt)
end
end Mine
namespace Mine
section
variable {prog : Program} {w : World} {A : Around} {s₀ : Shared} {g h : Heap} {tk : Nat} {L a : Addr} {l : List (Str × Value)} {N : Ld} {v : Value} {vs : List Value} {k : Int} {t : Tok}
/-- an item of a list, from its end -/
theorem itN {Q : Value → Shared → Prop} {value slice : Expr} {o : Obj} (e : h.get? a = some o) (hlo : IsLst o vs) (h0 : k < 0) (h1 : -(vs.length : Int) ≤ k) (hz : vs.length ≤ 1000000) (hx : vs[(k + vs.length).toNat]? = some v) (H : Q v (St s₀ h tk))
    (hs : subscripted slice false (.ref a) (.int k t) = operate [.ref a, .int k t] (getItem (.ref a) (.int k t)) := by with_unfolding_all rfl) :
    wpAny (model prog w) A (subscriptTail value slice (.ref a) (.int k t)) Q No (St s₀ h tk) :=
  have hl : (St s₀ h tk).heap.IsList a vs.toArray := hlo.is e
  tail_any hl.typeIs slot_list_getitem.lookup (wpAny_getItem_list_neg hl h0 (by simpa using h1) (by (first | lia | omega)) (by simpa using hx) H) hs
/-- enumerate(a list) -/
theorem r_enum {Q : Value → Shared → Prop} {lo : Obj} (e : h.get? a = some lo) (hlo : IsLst lo vs) (H : ∀ E I h₂ Is, Kp h h₂ → (∀ q ∈ Is, New h h₂ q.1 q.2) → (Is.map (·.1)).Nodup → EnIt E I a 0 Is → E ≠ I → Q (.ref E) (St s₀ h₂ tk)) :
    wpAny (model prog w) A (call (.type "enumerate") [.ref a]) Q No (St s₀ h tk) := by
  refine call_enumerate_list (s := St s₀ h tk) (hlo.is e) fun h' he hit hz hk => ?_
  obtain ⟨o, e1, e2, e3⟩ := hit
  replace he : h'.get? (h.objs.size + 1) = some { cls := .type "enumerate", dict := none, data := .fields #[.none, .bool false, .ref h.objs.size, rawInt ((0 : Nat) : Int), .none, .none], slots := #[] } := he
  refine H (h.objs.size + 1) h.objs.size h' [(h.objs.size + 1, _), (h.objs.size, o)] hk (fun q hq => ?_) ?_ ⟨o, .none, rfl, e2, e3⟩ (Nat.succ_ne_self _)
  · rcases List.mem_cons.mp hq with rfl | hq
    · exact ⟨Heap.get?_none_of_le (Nat.le_succ _), he⟩
    · rw [List.mem_singleton.mp hq]
      exact ⟨none_size h, e1⟩
  · simp
theorem EnIt.iter {Q : Value → Shared → Prop} {E I ax : Addr} {i : Nat} {Is : Ld} (q : EnIt E I ax i Is) (hI : ∀ q ∈ Is, h.get? q.1 = some q.2) (H : Q (.ref E) (St s₀ h tk)) : wpAny (model prog w) A (pyIter (.ref E)) Q No (St s₀ h tk) := by
  obtain ⟨o, old, rfl, o1, o2⟩ := q
  exact wpAny_pyIter_enum (s := St s₀ h tk) (hI _ (.head _)) H
theorem Fm.itsN {Is : Ld} {h₂ : Heap} (F : Fm g L l N h) (k : Kp h h₂) (n : ∀ q ∈ Is, New h h₂ q.1 q.2) (nd : (Is.map (·.1)).Nodup) : Fm g L l (Is ++ N) h₂ := (F.app k n nd).perm List.perm_append_comm
end
/-- rows of a grid, in the ledger -/
inductive RowsAre : Ld → List (List Nat) → Prop
  | nil : RowsAre [] []
  | cons {a : Addr} {o : Obj} {vs : List Value} {ns : List Nat} {Rs : Ld} {rows : List (List Nat)} : IsLst o vs → IntsAre vs (ns.map fun d : Nat => (d : Int)) → RowsAre Rs rows → RowsAre ((a, o) :: Rs) (ns :: rows)
theorem RowsAre.length {Rs : Ld} {rows : List (List Nat)} (X : RowsAre Rs rows) : Rs.length = rows.length := by
  induction X with
  | nil => rfl
  | cons _ _ _ ih => simp [ih]
theorem RowsAre.snoc {Rs : Ld} {rows : List (List Nat)} {a : Addr} {o : Obj} {vs : List Value} {ns : List Nat} (X : RowsAre Rs rows) (hl : IsLst o vs) (hi : IntsAre vs (ns.map fun d : Nat => (d : Int))) : RowsAre (Rs ++ [(a, o)]) (rows ++ [ns]) := by
  induction X with
  | nil => exact .cons hl hi .nil
  | cons h1 h2 _ ih => exact .cons h1 h2 ih
theorem RowsAre.get {Rs : Ld} {rows : List (List Nat)} (X : RowsAre Rs rows) {k : Nat} {ns : List Nat} (hk : rows[k]? = some ns) : ∃ a o vs, Rs[k]? = some (a, o) ∧ IsLst o vs ∧ IntsAre vs (ns.map fun d : Nat => (d : Int)) := by
  induction X generalizing k with
  | nil => simp at hk
  | cons h1 h2 _ ih =>
    cases k with
    | zero => cases hk; exact ⟨_, _, _, rfl, h1, h2⟩
    | succ k => exact ih hk
theorem RowsAre.set {Rs : Ld} {rows : List (List Nat)} (X : RowsAre Rs rows) {k : Nat} {a : Addr} {o : Obj} {vs : List Value} {ns : List Nat} (hl : IsLst o vs) (hi : IntsAre vs (ns.map fun d : Nat => (d : Int))) : RowsAre (Rs.set k (a, o)) (rows.set k ns) := by
  induction X generalizing k with
  | nil => exact .nil
  | cons h1 h2 h3 ih =>
    cases k with
    | zero => exact .cons hl hi h3
    | succ k => exact .cons h1 h2 ih
/-- what a grid's rows bear -/
noncomputable abbrev gD (rows : List (List Nat)) : Dat := .list (rows.map fun r => .list (r.map fun d : Nat => .int (d : Int)))
theorem RowsAre.ra {H : Addr → Obj → Prop} {B : Nat} {Rs : Ld} {rows : List (List Nat)} (X : RowsAre Rs rows) (hH : ∀ q ∈ Rs, H q.1 q.2) : RA H B (Rs.map fun q => .ref q.1) (rows.map fun r => .list (r.map fun d : Nat => .int (d : Int))) := by
  induction X with
  | nil => exact .nil
  | cons h1 h2 _ ih =>
    refine .cons (.list (hH _ (.head _)) h1 ?_) (ih fun q hq => hH q (.tail _ hq))
    have := RA.ints (H := H) (B := B) h2
    rw [List.map_map] at this
    exact this
end Mine
namespace Mine
noncomputable def MidV {α : Type} (R : α → Prop) (s₀ : Shared) (h : Heap) (tk : Nat) (v : α) (s : Shared) : Prop := ∃ tk', s = St s₀ h tk' ∧ tk ≤ tk' ∧ R v
theorem MidV.mk {α : Type} {R : α → Prop} {s₀ : Shared} {h : Heap} {tk tk' : Nat} {v : α} (t : tk ≤ tk') (r : R v) : MidV R s₀ h tk v (St s₀ h tk') := ⟨tk', rfl, t, r⟩
/-- a value is told by a word, and no object is touched -/
theorem midVe {α : Type} {M : Model} {A : Around} {s₀ : Shared} {h : Heap} {tk : Nat} {t : Sem α} {Q : α → Shared → Prop} (v₀ : α) (H : wpAny M A t (MidV (· = v₀) s₀ h tk) No (St s₀ h tk))
    (K : ∀ tk', tk ≤ tk' → Q v₀ (St s₀ h tk')) : wpAny M A t Q No (St s₀ h tk) :=
  wpAny_mono H (fun v s q => by obtain ⟨tk', rfl, h1, rfl⟩ := q; exact K tk' h1) fun _ _ q => q.elim
theorem midV {α : Type} {M : Model} {A : Around} {s₀ : Shared} {h : Heap} {tk : Nat} {t : Sem α} {Q : α → Shared → Prop} (R : α → Prop) (H : wpAny M A t (MidV R s₀ h tk) No (St s₀ h tk))
    (K : ∀ v tk', tk ≤ tk' → R v → Q v (St s₀ h tk')) : wpAny M A t Q No (St s₀ h tk) :=
  wpAny_mono H (fun v s q => by obtain ⟨tk', rfl, h1, h2⟩ := q; exact K v tk' h1 h2) fun _ _ q => q.elim
end Mine
end
section
namespace Mine
noncomputable abbrev Grd := Nat → Nat → Nat
noncomputable def inc (g : Grd) (i j : Nat) : Grd := fun a b => if a = i ∧ b = j then g a b + 1 else g a b
noncomputable def dcr (g : Grd) (i j : Nat) : Grd := fun a b => if a = i ∧ b = j then g a b - 1 else g a b
noncomputable def rowL (s : Nat → Nat) (g : Grd) (i : Nat) : List Nat := (List.range (s i)).map (g i)
theorem rowL_get (s : Nat → Nat) (g : Grd) {i j : Nat} (h : j < s i) : (rowL s g i)[j]? = some (g i j) := by simp [rowL, h]
theorem rowL_inc (s : Nat → Nat) (g : Grd) (i j : Nat) : rowL s (inc g i j) i = (rowL s g i).set j (g i j + 1) := by
  apply List.ext_getElem?
  intro k
  rw [List.getElem?_set]
  by_cases h : j = k
  · subst h
    by_cases hj : j < s i <;> simp [rowL, inc, hj]
  · have : ¬ (k = j) := fun z => h z.symm
    by_cases hk : k < s i <;> simp [rowL, inc, h, this, hk]
theorem rowL_dcr (s : Nat → Nat) (g : Grd) (i j : Nat) : rowL s (dcr g i j) i = (rowL s g i).set j (g i j - 1) := by
  apply List.ext_getElem?
  intro k
  rw [List.getElem?_set]
  by_cases h : j = k
  · subst h
    by_cases hj : j < s i <;> simp [rowL, dcr, hj]
  · have : ¬ (k = j) := fun z => h z.symm
    by_cases hk : k < s i <;> simp [rowL, dcr, h, this, hk]
theorem rowL_off (s : Nat → Nat) (g : Grd) {i j a : Nat} (h : a ≠ i) : rowL s (inc g i j) a = rowL s g a ∧ rowL s (dcr g i j) a = rowL s g a := by
  constructor <;> (unfold rowL; apply List.map_congr_left; intro b _; simp [inc, dcr, h])
/-- a run of a path that lays a hook of row r in: from (i, j), in at most n steps -/
inductive PutR (s : Nat → Nat) (r : Nat) : Grd → Nat → Nat → Nat → Grd → Prop
  | stop {g : Grd} {i j n : Nat} : j < s i → i = r → j + 1 = s r → PutR s r g i j (n + 1) (inc g i j)
  | right {g g' : Grd} {i j n : Nat} : j + 1 < s i → g i (j + 1) = g i j → ¬ (i = r ∧ j + 1 = s r) → PutR s r (inc g i j) i (j + 1) n g' → PutR s r g i j (n + 1) g'
  | up {g g' : Grd} {i j n : Nat} : j < s (i + 1) → ¬ (j + 1 < s (i + 1) ∧ g (i + 1) (j + 1) = g (i + 1) j) → ¬ (i + 1 = r ∧ j + 1 = s r) → PutR s r (inc g (i + 1) j) i j n g' → PutR s r g (i + 1) j (n + 1) g'
/-- a run of a path that takes a hook out: it ends in column c -/
inductive TakeR (s : Nat → Nat) : Grd → Nat → Nat → Nat → Nat → Nat → Grd → Prop
  | stop {g : Grd} {i j n : Nat} : j < s i → ¬ (0 < j ∧ g i (j - 1) = g i j) → ¬ j < s (i + 1) → TakeR s g i j (n + 1) i j (dcr g i j)
  | left {g g' : Grd} {i j n d c : Nat} : j + 1 < s i → g i j = g i (j + 1) → TakeR s (dcr g i (j + 1)) i j n d c g' → TakeR s g i (j + 1) (n + 1) d c g'
  | down {g g' : Grd} {i j n d c : Nat} : j < s i → ¬ (0 < j ∧ g i (j - 1) = g i j) → j < s (i + 1) → TakeR s (dcr g i j) (i + 1) j n d c g' → TakeR s g i j (n + 1) d c g'
end Mine
end
section
namespace Mine
theorem dcr_inc (g : Grd) (i j : Nat) : dcr (inc g i j) i j = g := by
  funext a b
  unfold dcr inc
  by_cases h : a = i ∧ b = j <;> simp [h]
theorem inc_dcr (g : Grd) (i j : Nat) (h : 0 < g i j) : inc (dcr g i j) i j = g := by
  funext a b
  unfold dcr inc
  by_cases h2 : a = i ∧ b = j
  · obtain ⟨rfl, rfl⟩ := h2
    simp; (first | lia | omega)
  · simp [h2]
theorem inc_self (g : Grd) (i j : Nat) : inc g i j i j = g i j + 1 := by simp [inc]
theorem dcr_self (g : Grd) (i j : Nat) : dcr g i j i j = g i j - 1 := by simp [dcr]
theorem inc_off (g : Grd) {i j a b : Nat} (h : ¬ (a = i ∧ b = j)) : inc g i j a b = g a b := by simp [inc, h]
theorem dcr_off (g : Grd) {i j a b : Nat} (h : ¬ (a = i ∧ b = j)) : dcr g i j a b = g a b := by simp [dcr, h]
/-- laid in, then taken out -/
theorem put_take {s : Nat → Nat} {r : Nat} {gc g' : Grd} {i j n : Nat} (P : PutR s r gc i j n g') : (∀ a, a < i → ∀ b, b + 1 < s a → gc a b ≤ gc a (b + 1)) → (∀ a, s (a + 1) ≤ s a) →
    ∃ k, k < n ∧ ∀ m d c gf, TakeR s (inc gc i j) i j m d c gf → TakeR s g' r (s r - 1) (m + k) d c gf := by
  intro hm hs
  induction P with
  | stop h1 h2 h3 =>
    subst h2
    exact ⟨0, Nat.succ_pos _, fun m d c gf T => by rw [← h3, Nat.add_sub_cancel]; exact T⟩
  | right h1 h2 h3 hr ih =>
    rename_i g g2 i j n
    obtain ⟨k, hk, ih⟩ := ih (fun a ha b hb => by
      rw [inc_off _ (by (first | lia | omega)), inc_off _ (by (first | lia | omega))]; exact hm a ha b hb)
    refine ⟨k + 1, by (first | lia | omega), fun m d c gf T => ?_⟩
    rw [show m + (k + 1) = (m + 1) + k by (first | lia | omega)]
    refine ih (m + 1) d c gf (.left h1 ?_ (by rw [dcr_inc]; exact T))
    rw [inc_self, inc_off _ (by (first | lia | omega)), inc_self, inc_off _ (by (first | lia | omega)), h2]
  | up h1 h2 h3 hr ih =>
    rename_i g g2 i j n
    obtain ⟨k, hk, ih⟩ := ih (fun a ha b hb => by
      rw [inc_off _ (by (first | lia | omega)), inc_off _ (by (first | lia | omega))]; exact hm a (by (first | lia | omega)) b hb)
    refine ⟨k + 1, by (first | lia | omega), fun m d c gf T => ?_⟩
    rw [show m + (k + 1) = (m + 1) + k by (first | lia | omega)]
    refine ih (m + 1) d c gf (.down (Nat.lt_of_lt_of_le h1 (hs i)) ?_ h1 (by rw [dcr_inc]; exact T))
    rintro ⟨h0, e⟩
    rw [inc_off _ (by (first | lia | omega)), inc_off _ (by (first | lia | omega)), inc_self, inc_off _ (by (first | lia | omega))] at e
    have := hm i (Nat.lt_succ_self _) (j - 1) (by have := hs i; (first | lia | omega))
    rw [Nat.sub_add_cancel h0] at this
    (first | lia | omega)
/-- taken out, then laid in -/
theorem take_put {s : Nat → Nat} {r : Nat} {gc g0 : Grd} {i j n d c : Nat} (T : TakeR s gc i j n d c g0) : 0 < gc i j → (∀ a b, i ≤ a → b < s (a + 1) → gc a b ≤ gc (a + 1) b) → (∀ a b, i < a → b + 1 < s a → gc a b ≤ gc a (b + 1)) → r ≤ i →
    ∃ k, k < n ∧ ∀ m gf, PutR s r (dcr gc i j) i j m gf → PutR s r g0 d c (m + k) gf := by
  intro hp hc hm hr
  induction T with
  | stop h1 h2 h3 => exact ⟨0, Nat.succ_pos _, fun m gf P => P⟩
  | left h1 h2 hrun ih =>
    rename_i g g2 i j n d c
    obtain ⟨k, hk, ih⟩ := ih (by rw [dcr_off _ (by (first | lia | omega))]; (first | lia | omega)) (fun a b ha hb => by
      by_cases e : a = i ∧ b = j + 1
      · obtain ⟨rfl, rfl⟩ := e
        rw [dcr_self, dcr_off _ (by (first | lia | omega))]
        exact Nat.le_trans (Nat.sub_le _ _) (hc _ _ ha hb)
      · rw [dcr_off _ e, dcr_off _ (by (first | lia | omega))]; exact hc a b ha hb) (fun a b ha hb => by rw [dcr_off _ (by (first | lia | omega)), dcr_off _ (by (first | lia | omega))]; exact hm a b ha hb) hr
    refine ⟨k + 1, by (first | lia | omega), fun m gf P => ?_⟩
    rw [show m + (k + 1) = (m + 1) + k by (first | lia | omega)]
    refine ih (m + 1) gf (.right h1 ?_ ?_ (by rw [inc_dcr _ _ _ (by rw [dcr_off _ (by (first | lia | omega))]; (first | lia | omega))]; exact P))
    · rw [dcr_off _ (by (first | lia | omega)), dcr_self, dcr_self, dcr_off _ (by (first | lia | omega)), h2]
    · rintro ⟨rfl, e⟩; (first | lia | omega)
  | down h1 h2 h3 hrun ih =>
    rename_i g g2 i j n d c
    have hpos : g i j ≤ g (i + 1) j := hc i j (Nat.le_refl _) h3
    obtain ⟨k, hk, ih⟩ := ih (by rw [dcr_off _ (by (first | lia | omega))]; (first | lia | omega)) (fun a b ha hb => by
      rw [dcr_off _ (by (first | lia | omega)), dcr_off _ (by (first | lia | omega))]; exact hc a b (by (first | lia | omega)) hb) (fun a b ha hb => by
      rw [dcr_off _ (by (first | lia | omega)), dcr_off _ (by (first | lia | omega))]; exact hm a b (by (first | lia | omega)) hb) (by (first | lia | omega))
    refine ⟨k + 1, by (first | lia | omega), fun m gf P => ?_⟩
    rw [show m + (k + 1) = (m + 1) + k by (first | lia | omega)]
    refine ih (m + 1) gf (.up h3 ?_ (by (first | lia | omega)) (by rw [inc_dcr _ _ _ (by rw [dcr_off _ (by (first | lia | omega))]; (first | lia | omega))]; exact P))
    rintro ⟨hj, e⟩
    rw [dcr_off _ (by (first | lia | omega)), dcr_off _ (by (first | lia | omega)), dcr_self, dcr_off _ (by (first | lia | omega))] at e
    have := hm (i + 1) j (Nat.lt_succ_self _) hj
    (first | lia | omega)
end Mine
end
section
namespace Mine
section
variable {s : Nat → Nat} {r : Nat}
theorem PutR.row {g g' : Grd} {i j n : Nat} (P : PutR s r g i j n g') : r ≤ i := by
  induction P with
  | stop h1 h2 h3 => (first | lia | omega)
  | right h1 h2 h3 hq ih => exact ih
  | up h1 h2 h3 hq ih => (first | lia | omega)
theorem PutR.weak {g g' : Grd} {i j n : Nat} (P : PutR s r g i j n g') : ∀ N, n ≤ N → PutR s r g i j N g' := by
  induction P with
  | stop h1 h2 h3 => intro N h; obtain ⟨N, rfl⟩ : ∃ k, N = k + 1 := ⟨N - 1, by (first | lia | omega)⟩; exact .stop h1 h2 h3
  | right h1 h2 h3 hq ih => intro N h; obtain ⟨N, rfl⟩ : ∃ k, N = k + 1 := ⟨N - 1, by (first | lia | omega)⟩; exact .right h1 h2 h3 (ih N (by (first | lia | omega)))
  | up h1 h2 h3 hq ih => intro N h; obtain ⟨N, rfl⟩ : ∃ k, N = k + 1 := ⟨N - 1, by (first | lia | omega)⟩; exact .up h1 h2 h3 (ih N (by (first | lia | omega)))
theorem s_le (hs : ∀ a, s (a + 1) ≤ s a) {a b : Nat} (h : a ≤ b) : s b ≤ s a := by
  induction b with
  | zero => rw [show a = 0 by (first | lia | omega)]; exact Nat.le_refl _
  | succ b ih =>
    by_cases e : a = b + 1
    · rw [e]; exact Nat.le_refl _
    · exact Nat.le_trans (hs b) (ih (by (first | lia | omega)))
theorem PutR.tight (hs : ∀ a, s (a + 1) ≤ s a) {g g' : Grd} {i j n : Nat} (P : PutR s r g i j n g') : PutR s r g i j ((i - r) + (s r - j)) g' := by
  induction P with
  | stop h1 h2 h3 =>
    subst h2
    rename_i i j n
    rw [show (i - i) + (s i - j) = 0 + 1 by (first | lia | omega)]
    exact .stop h1 rfl h3
  | right h1 h2 h3 hr ih =>
    rename_i g g2 i j n
    have := s_le hs hr.row
    rw [show (i - r) + (s r - j) = ((i - r) + (s r - (j + 1))) + 1 by (first | lia | omega)]
    exact .right h1 h2 h3 ih
  | up h1 h2 h3 hr ih =>
    rename_i g g2 i j n
    have := hr.row
    rw [show (i + 1 - r) + (s r - j) = ((i - r) + (s r - j)) + 1 by (first | lia | omega)]
    exact .up h1 h2 h3 ih
theorem TakeR.weak {g g' : Grd} {i j n d c : Nat} (P : TakeR s g i j n d c g') : ∀ N, n ≤ N → TakeR s g i j N d c g' := by
  induction P with
  | stop h1 h2 h3 => intro N h; obtain ⟨N, rfl⟩ : ∃ k, N = k + 1 := ⟨N - 1, by (first | lia | omega)⟩; exact .stop h1 h2 h3
  | left h1 h2 hq ih => intro N h; obtain ⟨N, rfl⟩ : ∃ k, N = k + 1 := ⟨N - 1, by (first | lia | omega)⟩; exact .left h1 h2 (ih N (by (first | lia | omega)))
  | down h1 h2 h3 hq ih => intro N h; obtain ⟨N, rfl⟩ : ∃ k, N = k + 1 := ⟨N - 1, by (first | lia | omega)⟩; exact .down h1 h2 h3 (ih N (by (first | lia | omega)))
theorem TakeR.bot {g g' : Grd} {i j n d c : Nat} (P : TakeR s g i j n d c g') : c < s d ∧ ¬ c < s (d + 1) ∧ i ≤ d ∧ c ≤ j := by
  induction P with
  | stop h1 h2 h3 => exact ⟨h1, h3, Nat.le_refl _, Nat.le_refl _⟩
  | left h1 h2 hq ih => exact ⟨ih.1, ih.2.1, ih.2.2.1, by (first | lia | omega)⟩
  | down h1 h2 h3 hq ih => exact ⟨ih.1, ih.2.1, by (first | lia | omega), ih.2.2.2⟩
/-- there is a taking run from everywhere -/
theorem take_ex (R : Nat) (hR : ∀ a, R ≤ a → s a = 0) : ∀ (k : Nat) (g : Grd) (i j : Nat), j < s i → j + (R - i) ≤ k → ∃ d c g', TakeR s g i j k d c g' := by
  intro k
  induction k with
  | zero =>
    intro g i j hj hk
    have : s i = 0 := hR i (by (first | lia | omega))
    (first | lia | omega)
  | succ k ih =>
    intro g i j hj hk
    have hi : i < R := Nat.lt_of_not_le fun h => by have := hR i h; (first | lia | omega)
    by_cases hl : 0 < j ∧ g i (j - 1) = g i j
    · obtain ⟨j, rfl⟩ : ∃ q, j = q + 1 := ⟨j - 1, by (first | lia | omega)⟩
      obtain ⟨d, c, g', P⟩ := ih (dcr g i (j + 1)) i j (by (first | lia | omega)) (by (first | lia | omega))
      exact ⟨d, c, g', .left hj hl.2 P⟩
    · by_cases hd : j < s (i + 1)
      · obtain ⟨d, c, g', P⟩ := ih (dcr g i j) (i + 1) j hd (by (first | lia | omega))
        exact ⟨d, c, g', .down hj hl hd P⟩
      · exact ⟨i, j, _, .stop hj hl hd⟩
/-- a laying path on a grid that stands -/
inductive PutS (s : Nat → Nat) (r : Nat) (g : Grd) : Nat → Nat → Prop
  | stop {i j : Nat} : j < s i → i = r → j + 1 = s r → PutS s r g i j
  | right {i j : Nat} : j + 1 < s i → g i (j + 1) = g i j → ¬ (i = r ∧ j + 1 = s r) → PutS s r g i (j + 1) → PutS s r g i j
  | up {i j : Nat} : j < s (i + 1) → ¬ (j + 1 < s (i + 1) ∧ g (i + 1) (j + 1) = g (i + 1) j) → ¬ (i + 1 = r ∧ j + 1 = s r) → PutS s r g i j → PutS s r g (i + 1) j
/-- a taking path on a grid that stands -/
inductive TakeS (s : Nat → Nat) (g : Grd) : Nat → Nat → Nat → Prop
  | stop {i j : Nat} : j < s i → ¬ (0 < j ∧ g i (j - 1) = g i j) → ¬ j < s (i + 1) → TakeS s g i j j
  | left {i j c : Nat} : j + 1 < s i → g i j = g i (j + 1) → TakeS s g i j c → TakeS s g i (j + 1) c
  | down {i j c : Nat} : j < s i → ¬ (0 < j ∧ g i (j - 1) = g i j) → j < s (i + 1) → TakeS s g (i + 1) j c → TakeS s g i j c
theorem PutS.run {g : Grd} {i j : Nat} (P : PutS s r g i j) : ∀ g1 : Grd, (∀ a b, a < i ∨ (a = i ∧ j ≤ b) → g1 a b = g a b) → ∃ n g', PutR s r g1 i j n g' := by
  induction P with
  | stop h1 h2 h3 => intro g1 _; exact ⟨1, _, .stop h1 h2 h3⟩
  | right h1 h2 h3 hq ih =>
    rename_i i j
    intro g1 hg
    obtain ⟨n, g', P⟩ := ih (inc g1 i j) fun a b h => by rw [inc_off _ (by (first | lia | omega))]; exact hg a b (by (first | lia | omega))
    exact ⟨n + 1, g', .right h1 (by rw [hg _ _ (by (first | lia | omega)), hg _ _ (by (first | lia | omega))]; exact h2) h3 P⟩
  | up h1 h2 h3 hq ih =>
    rename_i i j
    intro g1 hg
    obtain ⟨n, g', P⟩ := ih (inc g1 (i + 1) j) fun a b h => by rw [inc_off _ (by (first | lia | omega))]; exact hg a b (by (first | lia | omega))
    exact ⟨n + 1, g', .up h1 (by rw [hg _ _ (by (first | lia | omega)), hg _ _ (by (first | lia | omega))]; exact h2) h3 P⟩
theorem TakeR.stat {gc g' : Grd} {i j n d c : Nat} (P : TakeR s gc i j n d c g') : ∀ g : Grd, (∀ a b, i < a ∨ (a = i ∧ b ≤ j) → gc a b = g a b) → TakeS s g i j c := by
  induction P with
  | stop h1 h2 h3 => intro g hg; exact .stop h1 (by rw [← hg _ _ (by (first | lia | omega)), ← hg _ _ (by (first | lia | omega))]; exact h2) h3
  | left h1 h2 hq ih =>
    rename_i g0 g2 i j n d c
    intro g hg
    exact .left h1 (by rw [← hg _ _ (by (first | lia | omega)), ← hg _ _ (by (first | lia | omega))]; exact h2) (ih g fun a b h => by rw [dcr_off _ (by (first | lia | omega))]; exact hg a b (by (first | lia | omega)))
  | down h1 h2 h3 hq ih =>
    rename_i g0 g2 i j n d c
    intro g hg
    exact .down h1 (by rw [← hg _ _ (by (first | lia | omega)), ← hg _ _ (by (first | lia | omega))]; exact h2) h3 (ih g fun a b h => by rw [dcr_off _ (by (first | lia | omega))]; exact hg a b (by (first | lia | omega)))
theorem bot_uniq (hs : ∀ a, s (a + 1) ≤ s a) {a i c : Nat} (h1 : c < s a) (h2 : ¬ c < s (a + 1)) (h3 : c < s i) (h4 : ¬ c < s (i + 1)) : a = i := by
  have e1 : ¬ a + 1 ≤ i := fun h => by have := s_le hs h; (first | lia | omega)
  have e2 : ¬ i + 1 ≤ a := fun h => by have := s_le hs h; (first | lia | omega)
  (first | lia | omega)
/-- a laying path from a column at or right of the one where a taking path ends -/
theorem put_ex (hs : ∀ a, s (a + 1) ≤ s a) {g : Grd} {i j c0 : Nat} (T : TakeS s g i j c0) : r ≤ i → ∀ a c, c0 ≤ c → c < s i → c < s a → ¬ c < s (a + 1) → (∀ j', j ≤ j' → j' < s i → PutS s r g i j') → PutS s r g a c := by
  induction T with
  | stop h1 h2 h3 =>
    intro hr a c hc h4 h5 h6 K
    rw [bot_uniq hs h5 h6 h4 (by (first | lia | omega))]
    exact K c hc h4
  | left h1 h2 hq ih =>
    rename_i i j c0
    intro hr a c hc h4 h5 h6 K
    refine ih hr a c hc h4 h5 h6 fun j' hj hj' => ?_
    by_cases e : j' = j
    · subst e
      exact .right h1 h2.symm (by rintro ⟨rfl, e⟩; (first | lia | omega)) (K _ (Nat.le_refl _) h1)
    · exact K j' (by (first | lia | omega)) hj'
  | down h1 h2 h3 hq ih =>
    rename_i i j c0
    intro hr a c hc h4 h5 h6 K
    by_cases e : c < s (i + 1)
    · refine ih (by (first | lia | omega)) a c hc e h5 h6 fun j' hj hj' => ?_
      have : ∀ k j', s (i + 1) - j' ≤ k → j ≤ j' → j' < s (i + 1) → PutS s r g (i + 1) j' := by
        intro k
        induction k with
        | zero => intro j h1 _ h2; (first | lia | omega)
        | succ k ih =>
          intro j' q1 q0 q2
          by_cases h : j' + 1 < s (i + 1) ∧ g (i + 1) (j' + 1) = g (i + 1) j'
          · exact .right h.1 h.2 (by (first | lia | omega)) (ih (j' + 1) (by (first | lia | omega)) (by (first | lia | omega)) h.1)
          · exact .up q2 h (by (first | lia | omega)) (K j' q0 (by have := hs i; (first | lia | omega)))
      exact this _ j' (Nat.le_refl _) hj hj'
    · rw [bot_uniq hs h5 h6 h4 e]
      exact K c (by (first | lia | omega)) h4
theorem take_down0 (hs : ∀ a, s (a + 1) ≤ s a) (R : Nat) (hR : ∀ a, R ≤ a → s a = 0) (g : Grd) : ∀ k i, R - i ≤ k → 0 < s i → TakeS s g i 0 0 := by
  intro k
  induction k with
  | zero => intro i h1 h2; have := hR i (by (first | lia | omega)); (first | lia | omega)
  | succ k ih =>
    intro i h1 h2
    by_cases h : 0 < s (i + 1)
    · exact .down h2 (by (first | lia | omega)) h (ih (i + 1) (by have : i < R := (Nat.lt_of_not_le fun h => by have := hR i h; (first | lia | omega)); (first | lia | omega)) h)
    · exact .stop h2 (by (first | lia | omega)) h
theorem take_nought (hs : ∀ a, s (a + 1) ≤ s a) (R : Nat) (hR : ∀ a, R ≤ a → s a = 0) (g : Grd) {r : Nat} (h0 : ∀ b, b < s r → g r b = 0) : ∀ j, j < s r → TakeS s g r j 0 := by
  intro j
  induction j with
  | zero => exact fun h => take_down0 hs R hR g _ r (Nat.le_refl _) h
  | succ j ih => exact fun h => .left h (by rw [h0 _ (by (first | lia | omega)), h0 _ h]) (ih (by (first | lia | omega)))
/-- the path of a hook of row r is there -/
theorem put_run (hs : ∀ a, s (a + 1) ≤ s a) {g : Grd} {c0 a c : Nat} (T : TakeS s g r (s r - 1) c0) (h1 : c0 ≤ c) (h2 : c < s r) (h3 : c < s a) (h4 : ¬ c < s (a + 1)) : ∃ g', PutR s r g a c ((a - r) + (s r - c)) g' := by
  have := put_ex hs T (Nat.le_refl _) a c h1 h2 h3 h4 fun j' q1 q2 => .stop q2 rfl (by (first | lia | omega))
  obtain ⟨n, g', P⟩ := this.run g fun _ _ _ => rfl
  exact ⟨g', P.tight hs⟩
end
end Mine
end
section
namespace Mine
noncomputable def Mono (s : Nat → Nat) (g : Grd) : Prop := (∀ a b, b + 1 < s a → g a b ≤ g a (b + 1)) ∧ (∀ a b, b < s (a + 1) → g a b ≤ g (a + 1) b)
section
variable {s : Nat → Nat} {r : Nat}
theorem at2 {x y u v : Nat} {P : Nat → Nat → Prop} (e : x = y ∧ u = v) (h : P y v) : P x u := by rw [e.1, e.2]; exact h
theorem at3 {x y u v : Nat} {P : Nat → Nat → Prop} (e : x = y ∧ u = v) (h : P x u) : P y v := by rw [← e.1, ← e.2]; exact h
theorem at5 {x y u v : Nat} {P : Nat → Nat → Prop} (e : x = y ∧ u = v) (h : P y u) : P x v := by rw [e.1, ← e.2]; exact h
theorem put_mono {gc g' : Grd} {i j n : Nat} (P : PutR s r gc i j n g') : (∀ a, s (a + 1) ≤ s a) → (∀ a b, b + 1 < s a → ¬ (a = i ∧ b + 1 = j) → gc a b ≤ gc a (b + 1)) → (0 < j → gc i (j - 1) ≤ gc i j + 1) → (∀ a b, b < s (a + 1) → gc a b ≤ gc (a + 1) b) →
    (∀ b, j ≤ b → b < s (i + 1) → gc i j < gc (i + 1) b) → Mono s g' := by
  induction P with
  | stop h1 h2 h3 =>
    rename_i g i j n
    intro hs ha hb hc hd
    refine ⟨fun a b h => ?_, fun a b h => ?_⟩
    · by_cases e : a = i ∧ b + 1 = j
      · revert hb
        apply at3 (e); intro hb
        rw [inc_self, inc_off _ (by (first | lia | omega))]
        exact hb (Nat.succ_pos _)
      · rw [inc_off _ (show ¬ (a = i ∧ b = j) from fun q => by obtain ⟨rfl, rfl⟩ := q; (first | lia | omega)), inc_off _ e]
        exact ha a b h e
    · have := hc a b h
      by_cases e : a = i ∧ b = j
      · revert h
        apply at2 (e); intro h
        rw [inc_self, inc_off _ (by (first | lia | omega))]
        exact hd _ (Nat.le_refl _) h
      · rw [inc_off _ e]
        by_cases e2 : a + 1 = i ∧ b = j
        · apply at3 e2; rw [inc_self]; (first | lia | omega)
        · rw [inc_off _ e2]; exact this
  | right h1 h2 h3 hq ih =>
    rename_i g g2 i j n
    intro hs ha hb hc hd
    refine ih hs (fun a b h e => ?_) (fun _ => ?_) (fun a b h => ?_) (fun b h hb' => ?_)
    · rw [inc_off _ (show ¬ (a = i ∧ b = j) by (first | lia | omega))]
      by_cases e2 : a = i ∧ b + 1 = j
      · revert hb
        apply at3 (e2); intro hb
        rw [inc_self]; exact hb (Nat.succ_pos _)
      · rw [inc_off _ e2]; exact ha a b h e2
    · rw [Nat.add_sub_cancel, inc_self, inc_off _ (by (first | lia | omega)), h2]; exact Nat.le_refl _
    · have := hc a b h
      by_cases e : a = i ∧ b = j
      · revert h
        apply at2 (e); intro h
        rw [inc_self, inc_off _ (by (first | lia | omega))]
        exact hd _ (Nat.le_refl _) h
      · rw [inc_off _ e]
        by_cases e2 : a + 1 = i ∧ b = j
        · apply at3 e2; rw [inc_self]; (first | lia | omega)
        · rw [inc_off _ e2]; exact this
    · rw [inc_off _ (by (first | lia | omega)), inc_off _ (by (first | lia | omega)), h2]
      exact hd b (by (first | lia | omega)) hb'
  | up h1 h2 h3 hq ih =>
    rename_i g g2 i j n
    intro hs ha hb hc hd
    have hr : j + 1 < s (i + 1) → g (i + 1) j < g (i + 1) (j + 1) := fun h => by
      have := ha (i + 1) j h (by (first | lia | omega))
      have : g (i + 1) (j + 1) ≠ g (i + 1) j := fun e => h2 ⟨h, e⟩
      (first | lia | omega)
    refine ih hs (fun a b h e => ?_) (fun hj => ?_) (fun a b h => ?_) (fun b h hb' => ?_)
    · by_cases e2 : a = i + 1 ∧ b + 1 = j
      · revert hb
        apply at5 (e2); intro hb
        rw [inc_self, inc_off _ (by (first | lia | omega))]; exact hb (Nat.succ_pos _)
      · rw [inc_off _ e2]
        by_cases e3 : a = i + 1 ∧ b = j
        · revert h
          apply at2 (e3); intro h
          rw [inc_self]; exact hr h
        · rw [inc_off _ e3]; exact ha a b h e2
    · rw [inc_off _ (by (first | lia | omega)), inc_off _ (by (first | lia | omega))]
      have := ha i (j - 1) (by have := hs i; (first | lia | omega)) (by (first | lia | omega))
      rw [Nat.sub_add_cancel hj] at this
      (first | lia | omega)
    · have := hc a b h
      by_cases e : a = i + 1 ∧ b = j
      · revert h
        apply at2 (e); intro h
        rw [inc_self, inc_off _ (by (first | lia | omega))]
        exact hd _ (Nat.le_refl _) h
      · rw [inc_off _ e]
        by_cases e2 : a + 1 = i + 1 ∧ b = j
        · revert this
          apply at2 ((show a = i ∧ b = j from ⟨Nat.succ.inj e2.1, e2.2⟩)); intro this
          rw [inc_self]; (first | lia | omega)
        · rw [inc_off _ e2]; exact this
    · rw [inc_off _ (by (first | lia | omega))]
      have c0 := hc i j h1
      by_cases e : b = j
      · rw [e, inc_self]; (first | lia | omega)
      · rw [inc_off _ (by (first | lia | omega))]
        have c1 := hr (by (first | lia | omega))
        have : ∀ k, j + 1 + k < s (i + 1) → g (i + 1) (j + 1) ≤ g (i + 1) (j + 1 + k) := by
          intro k
          induction k with
          | zero => intro _; exact Nat.le_refl _
          | succ k ih => intro hk; exact Nat.le_trans (ih (by (first | lia | omega))) (ha (i + 1) (j + 1 + k) (by (first | lia | omega)) (by (first | lia | omega)))
        have := this (b - (j + 1)) (by (first | lia | omega))
        rw [show j + 1 + (b - (j + 1)) = b by (first | lia | omega)] at this
        (first | lia | omega)
theorem mono_row {g : Grd} (M : Mono s g) {a b c : Nat} (h : b ≤ c) (hc : c < s a) : g a b ≤ g a c := by
  induction c with
  | zero => rw [show b = 0 by (first | lia | omega)]; exact Nat.le_refl _
  | succ c ih =>
    by_cases e : b = c + 1
    · rw [e]; exact Nat.le_refl _
    · exact Nat.le_trans (ih (by (first | lia | omega)) (by (first | lia | omega))) (M.1 a c hc)
theorem take_mono {gc g' : Grd} {i j n d c : Nat} (T : TakeR s gc i j n d c g') : (∀ a, s (a + 1) ≤ s a) → (∀ a b, b + 1 < s a → ¬ (a = i ∧ b = j) → gc a b ≤ gc a (b + 1)) → (j + 1 < s i → gc i j ≤ gc i (j + 1) + 1) → (∀ a b, b < s (a + 1) → gc a b ≤ gc (a + 1) b) →
    (∀ a b, a + 1 = i → b ≤ j → gc a b < gc i j) → 0 < gc i j → Mono s g' := by
  have col : ∀ (g : Grd) (i j : Nat), (∀ a b, b < s (a + 1) → g a b ≤ g (a + 1) b) → (∀ a b, a + 1 = i → b ≤ j → g a b < g i j) → ∀ a b, b < s (a + 1) → dcr g i j a b ≤ dcr g i j (a + 1) b := by
    intro g i j hc hd a b h
    have := hc a b h
    by_cases e : a + 1 = i ∧ b = j
    · revert hd
      apply at3 (e); intro hd
      rw [dcr_self, dcr_off _ (by (first | lia | omega))]
      have := hd a b rfl (Nat.le_refl _)
      (first | lia | omega)
    · rw [dcr_off (a := a + 1) _ e]
      by_cases e2 : a = i ∧ b = j
      · apply at3 e2; rw [dcr_self]; (first | lia | omega)
      · rw [dcr_off _ e2]; exact this
  induction T with
  | stop h1 h2 h3 =>
    rename_i g i j n
    intro hs ha hb hc hd hp
    refine ⟨fun a b h => ?_, col g i j hc hd⟩
    by_cases e : a = i ∧ b = j
    · revert h
      apply at2 (e); intro h
      rw [dcr_self, dcr_off _ (by (first | lia | omega))]
      have := hb h
      (first | lia | omega)
    · rw [dcr_off _ e]
      by_cases e2 : a = i ∧ b + 1 = j
      · have h4 := ha a b h e
        revert h2
        apply at3 (e2); intro h2
        rw [dcr_self]
        have : g a b ≠ g a (b + 1) := fun q => h2 ⟨Nat.succ_pos _, by rw [Nat.add_sub_cancel]; exact q⟩
        (first | lia | omega)
      · rw [dcr_off _ e2]; exact ha a b h e
  | left h1 h2 hq ih =>
    rename_i g g2 i j n d c
    intro hs ha hb hc hd hp
    refine ih hs (fun a b h e => ?_) (fun _ => ?_) (col g i (j + 1) hc hd) (fun a b h hb' => ?_) ?_
    · by_cases e2 : a = i ∧ b = j + 1
      · revert h
        apply at2 (e2); intro h
        rw [dcr_self, dcr_off _ (by (first | lia | omega))]
        have := hb h
        (first | lia | omega)
      · rw [dcr_off _ e2, dcr_off _ (by (first | lia | omega))]; exact ha a b h e2
    · rw [dcr_off _ (by (first | lia | omega)), dcr_self]; (first | lia | omega)
    · rw [dcr_off _ (by (first | lia | omega)), dcr_off _ (by (first | lia | omega)), h2]; exact hd a b h (by (first | lia | omega))
    · rw [dcr_off _ (by (first | lia | omega)), h2]; exact hp
  | down h1 h2 h3 hq ih =>
    rename_i g g2 i j n d c
    intro hs ha hb hc hd hp
    have hl : 0 < j → g i (j - 1) < g i j := fun h => by
      have h4 := ha i (j - 1) (by (first | lia | omega)) (by (first | lia | omega))
      rw [Nat.sub_add_cancel h] at h4
      have : g i (j - 1) ≠ g i j := fun q => h2 ⟨h, q⟩
      (first | lia | omega)
    have c0 := hc i j h3
    refine ih hs (fun a b h e => ?_) (fun h => ?_) (col g i j hc hd) (fun a b h hb' => ?_) ?_
    · by_cases e2 : a = i ∧ b = j
      · revert h
        apply at2 (e2); intro h
        rw [dcr_self, dcr_off _ (by (first | lia | omega))]
        have := hb h
        (first | lia | omega)
      · rw [dcr_off _ e2]
        by_cases e3 : a = i ∧ b + 1 = j
        · revert hl
          apply at3 (e3); intro hl
          rw [dcr_self]
          have := hl (Nat.succ_pos _)
          rw [Nat.add_sub_cancel] at this
          (first | lia | omega)
        · rw [dcr_off _ e3]; exact ha a b h e2
    · rw [dcr_off _ (by (first | lia | omega)), dcr_off _ (by (first | lia | omega))]
      have := ha (i + 1) j h (by (first | lia | omega))
      (first | lia | omega)
    · obtain rfl : a = i := by (first | lia | omega)
      rw [dcr_off (a := a + 1) _ (by (first | lia | omega))]
      by_cases e : b = j
      · rw [e, dcr_self]; (first | lia | omega)
      · rw [dcr_off _ (by (first | lia | omega))]
        have h5 := hl (by (first | lia | omega))
        have : ∀ k, b + k ≤ j - 1 → g a b ≤ g a (b + k) := by
          intro k
          induction k with
          | zero => intro _; exact Nat.le_refl _
          | succ k ih => intro hk; exact Nat.le_trans (ih (by (first | lia | omega))) (ha a (b + k) (by (first | lia | omega)) (by (first | lia | omega)))
        have := this (j - 1 - b) (by (first | lia | omega))
        rw [show b + (j - 1 - b) = j - 1 by (first | lia | omega)] at this
        (first | lia | omega)
    · rw [dcr_off _ (by (first | lia | omega))]; (first | lia | omega)
theorem put_pos {gc g' : Grd} {i j n : Nat} (P : PutR s r gc i j n g') : 0 < g' r (s r - 1) := by
  induction P with
  | stop h1 h2 h3 => subst h2; rw [← h3, Nat.add_sub_cancel, inc_self]; exact Nat.succ_pos _
  | right h1 h2 h3 hq ih => exact ih
  | up h1 h2 h3 hq ih => exact ih
theorem put_off {gc g' : Grd} {i j n : Nat} (P : PutR s r gc i j n g') : ∀ a b, a < r → g' a b = gc a b := by
  induction P with
  | stop h1 h2 h3 => intro a b h; exact inc_off _ (by (first | lia | omega))
  | right h1 h2 h3 hq ih => intro a b h; rw [ih a b h]; exact inc_off _ (by have := hq.row; (first | lia | omega))
  | up h1 h2 h3 hq ih => intro a b h; rw [ih a b h]; exact inc_off _ (by have := hq.row; (first | lia | omega))
theorem take_off {gc g' : Grd} {i j n d c : Nat} (T : TakeR s gc i j n d c g') : ∀ a b, (a < i ∨ (a = i ∧ j < b) ∨ ¬ b < s a) → g' a b = gc a b := by
  induction T with
  | stop h1 h2 h3 => intro a b h; exact dcr_off _ (fun q => by obtain ⟨rfl, rfl⟩ := q; (first | lia | omega))
  | left h1 h2 hq ih => intro a b h; rw [ih a b (by (first | lia | omega))]; exact dcr_off _ (fun q => by obtain ⟨rfl, rfl⟩ := q; (first | lia | omega))
  | down h1 h2 h3 hq ih => intro a b h; rw [ih a b (by (first | lia | omega))]; exact dcr_off _ (fun q => by obtain ⟨rfl, rfl⟩ := q; (first | lia | omega))
theorem take_at {gc g' : Grd} {i j n d c : Nat} (T : TakeR s gc i j n d c g') : g' i j = gc i j - 1 := by
  induction T with
  | stop h1 h2 h3 => exact dcr_self _ _ _
  | left h1 h2 hq => rw [take_off hq _ _ (by (first | lia | omega))]; exact dcr_self _ _ _
  | down h1 h2 h3 hq => rw [take_off hq _ _ (by (first | lia | omega))]; exact dcr_self _ _ _
/-- the columns of takes that follow each other do not grow -/
theorem take_le {g g' : Grd} {i j n d c : Nat} (T : TakeR s g i j n d c g') : ∀ j2 c2, j2 ≤ j → TakeS s g' i j2 c2 → c2 ≤ c := by
  have le : ∀ {g : Grd} {i j c : Nat}, TakeS s g i j c → c ≤ j := by
    intro g i j c T
    induction T with
    | stop h1 h2 h3 => exact Nat.le_refl _
    | left h1 h2 hq ih => (first | lia | omega)
    | down h1 h2 h3 hq ih => exact ih
  induction T with
  | stop h1 h2 h3 => intro j2 c2 h T2; exact Nat.le_trans (le T2) h
  | left h1 h2 hq ih =>
    rename_i g g2 i j n d c
    intro j2 c2 h T2
    by_cases e : j2 ≤ j
    · exact ih j2 c2 e T2
    · obtain rfl : j2 = j + 1 := by (first | lia | omega)
      have e1 := take_at hq
      have e2 := take_off hq i (j + 1) (by (first | lia | omega))
      rw [dcr_off _ (by (first | lia | omega))] at e1
      rw [dcr_self] at e2
      have e3 : g2 i j = g2 i (j + 1) := by rw [e1, e2, h2]
      cases T2 with
      | stop _ q _ => exact absurd ⟨Nat.succ_pos _, by rw [Nat.add_sub_cancel]; exact e3⟩ q
      | left _ _ hq2 => exact ih j c2 (Nat.le_refl _) hq2
      | down _ q _ _ => exact absurd ⟨Nat.succ_pos _, by rw [Nat.add_sub_cancel]; exact e3⟩ q
  | down h1 h2 h3 hq ih =>
    rename_i g g2 i j n d c
    intro j2
    induction j2 with
    | zero =>
      intro c2 h T2
      cases T2 with
      | stop _ _ q => (first | lia | omega)
      | down _ _ _ hq2 => exact ih 0 c2 h hq2
    | succ j2 ih2 =>
      intro c2 h T2
      cases T2 with
      | stop _ _ q => (first | lia | omega)
      | left _ _ hq2 => exact ih2 c2 (by (first | lia | omega)) hq2
      | down _ _ _ hq2 => exact ih (j2 + 1) c2 h hq2
/-- what a grid holds -/
noncomputable def total (s : Nat → Nat) (R : Nat) (g : Grd) : Nat := ((List.range R).map fun a => (rowL s g a).sum).sum
theorem sum_bump (f : Nat → Nat) (j : Nat) : ∀ n, ((List.range n).map fun b => if b = j then f b + 1 else f b).sum = ((List.range n).map f).sum + if j < n then 1 else 0 := by
  intro n
  induction n with
  | zero => simp
  | succ n ih =>
    rw [List.range_succ, List.map_append, List.map_append, List.sum_append, List.sum_append, ih]
    by_cases h : n = j
    · subst h; simp; (first | lia | omega)
    · by_cases h2 : j < n
      · simp [h, h2, show j < n + 1 by (first | lia | omega)]; (first | lia | omega)
      · simp [h, h2, show ¬ j < n + 1 by (first | lia | omega)]
theorem total_inc {R i j : Nat} (g : Grd) (hi : i < R) (hj : j < s i) : total s R (inc g i j) = total s R g + 1 := by
  have : (fun a => (rowL s (inc g i j) a).sum) = fun a => if a = i then (rowL s g a).sum + 1 else (rowL s g a).sum := by
    funext a
    by_cases h : a = i
    · subst h
      have := sum_bump (g a) j (s a)
      rw [if_pos hj] at this
      rw [if_pos rfl, rowL, rowL, ← this]
      congr 2
      funext b
      simp [inc]
    · rw [if_neg h, (rowL_off s g h).1]
  unfold total
  rw [this]
  have := sum_bump (fun a => (rowL s g a).sum) i R
  rw [if_pos hi] at this
  exact this
theorem put_total {R : Nat} {gc g' : Grd} {i j n : Nat} (P : PutR s r gc i j n g') : i < R → total s R g' + r + j = total s R gc + s r + i := by
  induction P with
  | stop h1 h2 h3 => intro h; rw [total_inc _ h h1]; (first | lia | omega)
  | right h1 h2 h3 hq ih => intro h; have := ih h; rw [total_inc _ h (by (first | lia | omega))] at this; (first | lia | omega)
  | up h1 h2 h3 hq ih => intro h; have := ih (by (first | lia | omega)); rw [total_inc _ h h1] at this; (first | lia | omega)
end
end Mine
end
section
namespace Mine
/-- laying hooks in, one after the other -/
inductive Puts (s : Nat → Nat) : Grd → List (Nat × Nat) → Grd → Prop
  | nil {g : Grd} : Puts s g [] g
  | cons {g g' gf : Grd} {r c a : Nat} {ops : List (Nat × Nat)} : c < s r → c < s a → ¬ c < s (a + 1) → PutR s r g a c 5 g' → Puts s g' ops gf → Puts s g ((r, c) :: ops) gf
/-- a run of a path that takes a hook out, each box on it held something -/
inductive TakeP (s : Nat → Nat) : Grd → Nat → Nat → Nat → Nat → Nat → Grd → Prop
  | stop {g : Grd} {i j n : Nat} : j < s i → 0 < g i j → ¬ (0 < j ∧ g i (j - 1) = g i j) → ¬ j < s (i + 1) → TakeP s g i j (n + 1) i j (dcr g i j)
  | left {g g' : Grd} {i j n d c : Nat} : j + 1 < s i → 0 < g i (j + 1) → g i j = g i (j + 1) → TakeP s (dcr g i (j + 1)) i j n d c g' → TakeP s g i (j + 1) (n + 1) d c g'
  | down {g g' : Grd} {i j n d c : Nat} : j < s i → 0 < g i j → ¬ (0 < j ∧ g i (j - 1) = g i j) → j < s (i + 1) → TakeP s (dcr g i j) (i + 1) j n d c g' → TakeP s g i j (n + 1) d c g'
theorem take_pos {s : Nat → Nat} {gc g' : Grd} {i j n d c : Nat} (T : TakeR s gc i j n d c g') : (∀ a b, i ≤ a → b < s (a + 1) → gc a b ≤ gc (a + 1) b) → 0 < gc i j → TakeP s gc i j n d c g' := by
  induction T with
  | stop h1 h2 h3 => intro _ hp; exact .stop h1 hp h2 h3
  | left h1 h2 hq ih =>
    rename_i g g2 i j n d c
    intro hc hp
    refine .left h1 hp h2 (ih (fun a b ha hb => ?_) (by rw [dcr_off _ (by (first | lia | omega)), h2]; exact hp))
    by_cases e : a = i ∧ b = j + 1
    · obtain ⟨rfl, rfl⟩ := e
      rw [dcr_self, dcr_off _ (by (first | lia | omega))]
      exact Nat.le_trans (Nat.sub_le _ _) (hc _ _ ha hb)
    · rw [dcr_off _ e, dcr_off _ (by (first | lia | omega))]; exact hc a b ha hb
  | down h1 h2 h3 hq ih =>
    rename_i g g2 i j n d c
    intro hc hp
    refine .down h1 hp h2 h3 (ih (fun a b ha hb => ?_) ?_)
    · rw [dcr_off _ (by (first | lia | omega)), dcr_off _ (by (first | lia | omega))]; exact hc a b (by (first | lia | omega)) hb
    · rw [dcr_off _ (by (first | lia | omega))]
      exact Nat.lt_of_lt_of_le hp (hc i j (Nat.le_refl _) h3)
/-- taking hooks out, from row r on -/
inductive Takes (s : Nat → Nat) (R : Nat) : Nat → Grd → List (Nat × Nat) → Grd → Prop
  | done {g : Grd} : Takes s R R g [] g
  | row {r : Nat} {g gf : Grd} {ops : List (Nat × Nat)} : r < R → g r (s r - 1) = 0 → Takes s R (r + 1) g ops gf → Takes s R r g ops gf
  | take {r d c : Nat} {g g' gf : Grd} {ops : List (Nat × Nat)} : r < R → 0 < g r (s r - 1) → TakeP s g r (s r - 1) 5 d c g' → Takes s R r g' ops gf → Takes s R r g ((r, c) :: ops) gf
structure Sh (s : Nat → Nat) (R : Nat) : Prop where
  hs : ∀ a, s (a + 1) ≤ s a
  hR : ∀ a, R ≤ a → s a = 0
  hp : ∀ a, a < R → 0 < s a
  h3 : s 0 ≤ 3
  R3 : R ≤ 3
noncomputable def Od (p q : Nat × Nat) : Prop := q.1 < p.1 ∨ (q.1 = p.1 ∧ p.2 ≤ q.2)
noncomputable def dep (s : Nat → Nat) (R c : Nat) : Nat := ((List.range R).filter (fun a => decide (c < s a))).length
noncomputable def hk (s : Nat → Nat) (R : Nat) (p : Nat × Nat) : Nat := s p.1 - p.2 + dep s R p.2 - p.1 - 1
section
variable {s : Nat → Nat} {R : Nat}
theorem Sh.le3 (S : Sh s R) (a : Nat) : s a ≤ 3 := Nat.le_trans (s_le S.hs (Nat.zero_le a)) S.h3
theorem Sh.lt (S : Sh s R) {a b : Nat} (h : b < s a) : a < R := Nat.lt_of_not_le fun q => by have := S.hR a q; (first | lia | omega)
theorem Sh.bot (S : Sh s R) {r c : Nat} (h : c < s r) : ∃ a, r ≤ a ∧ c < s a ∧ ¬ c < s (a + 1) := by
  have : ∀ k r, R - r ≤ k → c < s r → ∃ a, r ≤ a ∧ c < s a ∧ ¬ c < s (a + 1) := by
    intro k
    induction k with
    | zero => intro r h1 h2; have := S.lt h2; (first | lia | omega)
    | succ k ih =>
      intro r h1 h2
      by_cases h3 : c < s (r + 1)
      · obtain ⟨a, q1, q2⟩ := ih (r + 1) (by have := S.lt h2; (first | lia | omega)) h3
        exact ⟨a, by (first | lia | omega), q2⟩
      · exact ⟨r, Nat.le_refl _, h2, h3⟩
  exact this _ r (Nat.le_refl _) h
theorem dep_eq (S : Sh s R) {a c : Nat} (h1 : c < s a) (h2 : ¬ c < s (a + 1)) : dep s R c = a + 1 := by
  have hc : ∀ x, decide (c < s x) = decide (x < a + 1) := by
    intro x
    by_cases h : x < a + 1
    · have := s_le S.hs (show x ≤ a by (first | lia | omega))
      simp [h]; (first | lia | omega)
    · have := s_le S.hs (show a + 1 ≤ x by (first | lia | omega))
      simp [h]; (first | lia | omega)
  have : ∀ n, ((List.range n).filter (fun x => decide (x < a + 1))).length = min n (a + 1) := by
    intro n
    induction n with
    | zero => simp
    | succ n ih =>
      rw [List.range_succ, List.filter_append, List.length_append, ih]
      by_cases h : n < a + 1
      · simp [h]; (first | lia | omega)
      · simp [h]; (first | lia | omega)
  unfold dep
  simp only [hc]
  rw [this]
  have := S.lt h1
  (first | lia | omega)
theorem takes_skip {L : List (Nat × Nat)} {g g0 : Grd} : ∀ r, r ≤ R → (∀ a, a < r → g a (s a - 1) = 0) → (Takes s R 0 g L g0 ↔ Takes s R r g L g0) := by
  intro r
  induction r with
  | zero => intro _ _; exact Iff.rfl
  | succ r ih =>
    intro h1 h2
    rw [ih (by (first | lia | omega)) fun a h => h2 a (by (first | lia | omega))]
    constructor
    · intro T
      cases T with
      | done => (first | lia | omega)
      | row _ _ q => exact q
      | take _ q _ _ => have := h2 r (Nat.lt_succ_self _); (first | lia | omega)
    · exact fun T => .row h1 (h2 r (Nat.lt_succ_self _)) T
/-- a bag, laid in: it can be, the filling never falls, it holds the hooks' lengths, and it gives the bag back -/
theorem bag_put (S : Sh s R) : ∀ (ops : List (Nat × Nat)) (g : Grd) (L : List (Nat × Nat)) (g0 : Grd), Mono s g → ops.Pairwise Od →
    (∀ p ∈ ops, p.2 < s p.1 ∧ (∀ a b, a < p.1 → b < s a → g a b = 0) ∧ ∃ c0, c0 ≤ p.2 ∧ TakeS s g p.1 (s p.1 - 1) c0) → Takes s R 0 g L g0 →
    ∃ gf, Puts s g ops gf ∧ Mono s gf ∧ total s R gf = total s R g + (ops.map (hk s R)).sum ∧ Takes s R 0 gf (ops.reverse ++ L) g0 := by
  intro ops
  induction ops with
  | nil => intro g L g0 M _ _ T; exact ⟨g, .nil, M, rfl, T⟩
  | cons p ops ih =>
    obtain ⟨r, c⟩ := p
    intro g L g0 M od hp T
    obtain ⟨od1, od2⟩ := List.pairwise_cons.mp od
    obtain ⟨hcr, hn, c0, hc0, TS⟩ := hp _ (.head _)
    dsimp only at hcr hn hc0 TS
    obtain ⟨a, har, hca, hca'⟩ := S.bot hcr
    have haR := S.lt hca
    have h3 := S.le3 r
    have hR3 := S.R3
    obtain ⟨g', P⟩ := put_run S.hs TS hc0 hcr hca hca'
    have M' : Mono s g' := put_mono P S.hs (fun a b h _ => M.1 a b h) (fun h => by
      have := M.1 a (c - 1) (by (first | lia | omega))
      rw [Nat.sub_add_cancel h] at this; (first | lia | omega)) M.2 (fun b h1 h2 => by (first | lia | omega))
    obtain ⟨k, hk1, K⟩ := put_take P (fun a _ b h => M.1 a b h) S.hs
    have T1 := K 1 a c _ (.stop hca (by
      rintro ⟨h, e⟩
      rw [inc_off _ (by (first | lia | omega)), inc_self] at e
      have := M.1 a (c - 1) (by (first | lia | omega))
      rw [Nat.sub_add_cancel h] at this; (first | lia | omega)) hca')
    rw [dcr_inc] at T1
    have T5 := T1.weak 5 (by (first | lia | omega))
    have hoff := put_off P
    have hn' : ∀ a b, a < r → b < s a → g' a b = 0 := fun a b h1 h2 => by rw [hoff a b h1]; exact hn a b h1 h2
    have hrR := S.lt hcr
    have T2 : Takes s R 0 g' ((r, c) :: L) g0 := by
      rw [takes_skip r (by (first | lia | omega)) fun a h => hn' a _ h (by have := S.hp a (by (first | lia | omega)); (first | lia | omega))]
      exact .take hrR (put_pos P) (take_pos T5 (fun a b _ h => M'.2 a b h) (put_pos P)) ((takes_skip r (by (first | lia | omega)) fun a h => hn a _ h (by have := S.hp a (by (first | lia | omega)); (first | lia | omega))).mp T)
    obtain ⟨gf, q1, q2, q3, q4⟩ := ih g' ((r, c) :: L) g0 M' od2 (fun q hq => by
      have o := od1 q hq
      unfold Od at o
      dsimp only at o
      refine ⟨(hp q (.tail _ hq)).1, fun a b h1 h2 => hn' a b (by (first | lia | omega)) h2, ?_⟩
      have hq1 := (hp q (.tail _ hq)).1
      by_cases e : q.1 < r
      · exact ⟨0, Nat.zero_le _, take_nought S.hs R S.hR g' (fun b hb => hn' _ _ e hb) _ (by (first | lia | omega))⟩
      · have e2 : q.1 = r := by (first | lia | omega)
        rw [e2]
        exact ⟨c, by (first | lia | omega), T5.stat g' fun _ _ _ => rfl⟩) T2
    refine ⟨gf, .cons hcr hca hca' (P.weak 5 (by (first | lia | omega))) q1, q2, ?_, by rw [List.reverse_cons, List.append_assoc]; exact q4⟩
    have ht := put_total P haR
    have hd := dep_eq S hca hca'
    rw [q3, List.map_cons, List.sum_cons]
    have : hk s R (r, c) = s r - c + (a + 1) - r - 1 := by unfold hk; rw [hd]
    rw [this]
    (first | lia | omega)
theorem Puts.snoc {g g' gf : Grd} {ops : List (Nat × Nat)} {r c a : Nat} (X : Puts s g ops g') (h1 : c < s r) (h2 : c < s a) (h3 : ¬ c < s (a + 1)) (P : PutR s r g' a c 5 gf) : Puts s g (ops ++ [(r, c)]) gf := by
  induction X with
  | nil => exact .cons h1 h2 h3 P .nil
  | cons q1 q2 q3 q4 _ ih => exact .cons q1 q2 q3 q4 (ih P)
noncomputable def Do (p q : Nat × Nat) : Prop := p.1 < q.1 ∨ (p.1 = q.1 ∧ q.2 ≤ p.2)
/-- a filling that never falls, taken apart: it can be, and what is taken lays it in again -/
theorem take_all (S : Sh s R) : ∀ (k r : Nat), R - r ≤ k → r ≤ R → ∀ (v : Nat) (g : Grd), g r (s r - 1) = v → Mono s g → (∀ a b, a < r → b < s a → g a b = 0) →
    ∃ ops gf, Takes s R r g ops gf ∧ (∀ a b, b < s a → gf a b = 0) ∧ (∀ a b, ¬ b < s a → gf a b = g a b) ∧ Puts s gf ops.reverse g ∧ ops.Pairwise Do ∧ (∀ p ∈ ops, r ≤ p.1 ∧ p.2 < s p.1) ∧
      (r < R → ∃ c, TakeS s g r (s r - 1) c ∧ ∀ p ∈ ops, p.1 = r → p.2 ≤ c) := by
  intro k
  induction k with
  | zero =>
    intro r h1 h2 v g hv M hn
    obtain rfl : r = R := by (first | lia | omega)
    exact ⟨[], g, .done, fun a b h => hn a b (S.lt h) h, fun _ _ _ => rfl, .nil, .nil, (fun _ h => nomatch h), fun h => absurd h (Nat.lt_irrefl _)⟩
  | succ k ihk =>
    intro r h1 h2 v
    by_cases hr : r < R
    · have hs0 := S.hp r hr
      induction v with
      | zero =>
        intro g hv M hn
        have hn' : ∀ a b, a < r + 1 → b < s a → g a b = 0 := fun a b h1 h2 => by
          by_cases e : a = r
          · subst e
            have := mono_row M (a := a) (show b ≤ s a - 1 by (first | lia | omega)) (by (first | lia | omega))
            (first | lia | omega)
          · exact hn a b (by (first | lia | omega)) h2
        obtain ⟨ops, gf, q1, q2, q3, q4, q5, q6, _⟩ := ihk (r + 1) (by (first | lia | omega)) hr _ g rfl M hn'
        refine ⟨ops, gf, .row hr hv q1, q2, q3, q4, q5, fun p hp => ⟨by have := (q6 p hp).1; (first | lia | omega), (q6 p hp).2⟩, fun _ => ⟨0, take_nought S.hs R S.hR g (fun b hb => hn' _ _ (Nat.lt_succ_self _) hb) _ (by (first | lia | omega)), fun p hp e => ?_⟩⟩
        have := (q6 p hp).1; (first | lia | omega)
      | succ v ihv =>
        intro g hv M hn
        have h3 := S.le3 r
        have hR3 := S.R3
        obtain ⟨d, c, g', T⟩ := take_ex R S.hR 5 g r (s r - 1) (by (first | lia | omega)) (by (first | lia | omega))
        have hg' : g' r (s r - 1) = v := by rw [take_at T, hv]; rfl
        have hb := T.bot
        have M' : Mono s g' := take_mono T S.hs (fun a b h _ => M.1 a b h) (fun h => by (first | lia | omega)) M.2 (fun a b h1 h2 => by
          have := hn a b (by (first | lia | omega)) (by have := S.hs a; rw [h1] at this; (first | lia | omega))
          (first | lia | omega)) (by (first | lia | omega))
        have hn' : ∀ a b, a < r → b < s a → g' a b = 0 := fun a b h1 h2 => by rw [take_off T a b (by (first | lia | omega))]; exact hn a b h1 h2
        obtain ⟨ops, gf, q1, q2, q3, q4, q5, q6, q7⟩ := ihv g' hg' M' hn'
        obtain ⟨c', hc', hle⟩ := q7 hr
        have hcc := take_le T _ _ (Nat.le_refl _) hc'
        obtain ⟨k5, hk5, K⟩ := take_put (r := r) T (by (first | lia | omega)) (fun a b _ h => M.2 a b h) (fun a b _ h => M.1 a b h) (Nat.le_refl _)
        have P := K 1 _ (.stop (by (first | lia | omega)) rfl (by (first | lia | omega)))
        rw [inc_dcr _ _ _ (by (first | lia | omega))] at P
        refine ⟨(r, c) :: ops, gf, .take hr (by (first | lia | omega)) (take_pos T (fun a b _ h => M.2 a b h) (by (first | lia | omega))) q1, q2, fun a b h => by rw [q3 a b h]; exact take_off T a b (by (first | lia | omega)), ?_, ?_, ?_, ?_⟩
        · rw [List.reverse_cons]
          exact q4.snoc (by (first | lia | omega)) hb.1 hb.2.1 (P.weak 5 (by (first | lia | omega)))
        · refine List.pairwise_cons.mpr ⟨fun q hq => ?_, q5⟩
          by_cases e : q.1 = r
          · exact .inr ⟨e.symm, Nat.le_trans (hle q hq e) hcc⟩
          · exact .inl (by have := (q6 q hq).1; show r < q.1; (first | lia | omega))
        · intro p hp
          rcases List.mem_cons.mp hp with rfl | hp
          · exact ⟨Nat.le_refl _, by show c < s r; (first | lia | omega)⟩
          · exact q6 p hp
        · refine fun _ => ⟨c, T.stat g fun _ _ _ => rfl, fun p hp e => ?_⟩
          rcases List.mem_cons.mp hp with rfl | hp
          · exact Nat.le_refl _
          · exact Nat.le_trans (hle p hp e) hcc
    · intro g hv M hn
      exact ihk r (by (first | lia | omega)) h2 v g hv M hn
end
/-- the hooks of a bag in the order in which they are laid in -/
noncomputable def opC (cnt : Nat → Nat → Nat) (r : Nat) : Nat → Nat → List (Nat × Nat)
  | 0, _ => []
  | k + 1, c => List.replicate (cnt r c) (r, c) ++ opC cnt r k (c + 1)
noncomputable def opR (s : Nat → Nat) (cnt : Nat → Nat → Nat) : Nat → List (Nat × Nat)
  | 0 => []
  | r + 1 => opC cnt r (s r) 0 ++ opR s cnt r
section
variable {s : Nat → Nat} {cnt : Nat → Nat → Nat}
theorem mem_opC {r : Nat} : ∀ {k c : Nat} {q : Nat × Nat}, q ∈ opC cnt r k c → q.1 = r ∧ c ≤ q.2 ∧ q.2 < c + k
  | 0, _, _, h => nomatch h
  | k + 1, c, q, h => by
    rcases List.mem_append.mp h with h | h
    · rw [List.eq_of_mem_replicate h]; exact ⟨rfl, Nat.le_refl _, by (first | lia | omega)⟩
    · have := mem_opC h; (first | lia | omega)
theorem mem_opR : ∀ {R : Nat} {q : Nat × Nat}, q ∈ opR s cnt R → q.1 < R ∧ q.2 < s q.1
  | 0, _, h => nomatch h
  | R + 1, q, h => by
    rcases List.mem_append.mp h with h | h
    · obtain ⟨h1, h2, h3⟩ := mem_opC h; rw [h1]; (first | lia | omega)
    · have := mem_opR h; (first | lia | omega)
theorem pw_opC {r : Nat} : ∀ (k c : Nat), (opC cnt r k c).Pairwise Od
  | 0, _ => .nil
  | k + 1, c => by
    refine List.pairwise_append.mpr ⟨List.pairwise_replicate.mpr (.inr (.inr ⟨rfl, Nat.le_refl _⟩)), pw_opC k (c + 1), fun p hp q hq => ?_⟩
    rw [List.eq_of_mem_replicate hp]
    have := mem_opC hq
    exact .inr ⟨this.1, by show c ≤ q.2; (first | lia | omega)⟩
theorem pw_opR : ∀ R : Nat, (opR s cnt R).Pairwise Od
  | 0 => .nil
  | R + 1 => by
    refine List.pairwise_append.mpr ⟨pw_opC _ _, pw_opR R, fun p hp q hq => ?_⟩
    have h1 := mem_opC hp
    have h2 := mem_opR hq
    exact .inl (by (first | lia | omega))
theorem count_opC {r : Nat} (q : Nat × Nat) : ∀ (k c : Nat), (opC cnt r k c).count q = if q.1 = r ∧ c ≤ q.2 ∧ q.2 < c + k then cnt r q.2 else 0
  | 0, c => by rw [if_neg (by (first | lia | omega))]; rfl
  | k + 1, c => by
    rw [opC, List.count_append, count_opC q k (c + 1), List.count_replicate]
    obtain ⟨a, b⟩ := q
    by_cases h1 : a = r
    · subst h1
      by_cases h2 : b = c
      · subst h2; simp; (first | lia | omega)
      · have : ((a, c) == (a, b)) = false := by simp; (first | lia | omega)
        rw [this]
        by_cases h3 : c + 1 ≤ b ∧ b < c + 1 + k
        · simp [h3, show c ≤ b by (first | lia | omega), show b < c + (k + 1) by (first | lia | omega)]
        · have h3' : ¬ (c + 1 ≤ b ∧ b < c + 1 + k) := h3
          simp only [Bool.false_eq_true, if_false, Nat.zero_add, true_and]
          rw [if_neg h3', if_neg (by (first | lia | omega))]
    · simp [h1, show ¬ r = a by (first | lia | omega)]
theorem count_opR (q : Nat × Nat) : ∀ R : Nat, (opR s cnt R).count q = if q.1 < R ∧ q.2 < s q.1 then cnt q.1 q.2 else 0
  | 0 => rfl
  | R + 1 => by
    rw [opR, List.count_append, count_opR q R, count_opC]
    obtain ⟨a, b⟩ := q
    dsimp only
    by_cases h1 : a = R
    · subst h1
      by_cases h2 : b < s a <;> simp [h2]
    · simp [h1, show a < R + 1 ↔ a < R by (first | lia | omega)]
/-- an ordered list is the canonical one of its counts -/
theorem opR_eq {R : Nat} {l : List (Nat × Nat)} (hl : l.Pairwise Od) (hv : ∀ p ∈ l, p.1 < R ∧ p.2 < s p.1) (hc : ∀ r c, r < R → c < s r → cnt r c = l.count (r, c)) : opR s cnt R = l := by
  refine List.Perm.eq_of_pairwise (le := Od) (fun a b _ _ h1 h2 => ?_) (pw_opR R) hl (List.perm_iff_count.mpr fun q => ?_)
  · unfold Od at h1 h2
    exact Prod.ext (by (first | lia | omega)) (by (first | lia | omega))
  · rw [count_opR]
    by_cases h : q.1 < R ∧ q.2 < s q.1
    · rw [if_pos h, hc _ _ h.1 h.2]
    · rw [if_neg h]
      exact (List.count_eq_zero.mpr fun hm => h (hv q hm)).symm
end
theorem PutR.inv {s : Nat → Nat} {r : Nat} {g g' : Grd} {i j n : Nat} (T : PutR s r g i j n g') {p : Prop}
    (h1 : ∀ m, n = m + 1 → j < s i → i = r → j + 1 = s r → g' = inc g i j → p) (h2 : ∀ m, n = m + 1 → j + 1 < s i → g i (j + 1) = g i j → ¬ (i = r ∧ j + 1 = s r) → PutR s r (inc g i j) i (j + 1) m g' → p)
    (h3 : ∀ m i', n = m + 1 → i = i' + 1 → j < s (i' + 1) → ¬ (j + 1 < s (i' + 1) ∧ g (i' + 1) (j + 1) = g (i' + 1) j) → ¬ (i' + 1 = r ∧ j + 1 = s r) → PutR s r (inc g (i' + 1) j) i' j m g' → p) : p := by
  induction T with
  | stop a b c => exact h1 _ rfl a b c rfl
  | right a b c d => exact h2 _ rfl a b c d
  | up a b c d => exact h3 _ _ rfl rfl a b c d
theorem PutR.in_row {s : Nat → Nat} {r : Nat} {g g' : Grd} {i j n : Nat} (T : PutR s r g i j n g') : j < s i :=
  T.inv (fun _ _ h _ _ _ => h) (fun _ _ h _ _ _ => Nat.lt_of_succ_lt h) fun _ _ _ e h _ _ _ => e ▸ h
theorem PutR.no0 {s : Nat → Nat} {r : Nat} {g g' : Grd} {i j : Nat} {p : Prop} (T : PutR s r g i j 0 g') : p :=
  T.inv (fun _ e => nomatch e) (fun _ e => nomatch e) fun _ _ e => nomatch e
theorem PutR.at_stop {s : Nat → Nat} {r : Nat} {g g' : Grd} {i j n : Nat} (T : PutR s r g i j (n + 1) g') (h : i = r ∧ j + 1 = s r) : g' = inc g i j :=
  T.inv (fun _ _ _ _ _ h => h) (fun _ _ _ _ z _ => absurd h z) fun _ _ _ e _ _ z _ => absurd (e ▸ h) z
theorem PutR.go_right {s : Nat → Nat} {r : Nat} {g g' : Grd} {i j n : Nat} (T : PutR s r g i j (n + 1) g') (h : ¬ (i = r ∧ j + 1 = s r)) (hr : j + 1 < s i ∧ g i (j + 1) = g i j) : PutR s r (inc g i j) i (j + 1) n g' :=
  T.inv (fun _ _ _ a b _ => absurd ⟨a, b⟩ h) (fun _ e _ _ _ q => Nat.succ.inj e ▸ q) fun _ _ _ e _ z _ _ => absurd (e ▸ hr) z
theorem PutR.go_up {s : Nat → Nat} {r : Nat} {g g' : Grd} {i j n : Nat} (T : PutR s r g i j (n + 1) g') (h : ¬ (i = r ∧ j + 1 = s r)) (hr : ¬ (j + 1 < s i ∧ g i (j + 1) = g i j)) {p : Prop}
    (H : ∀ i', i = i' + 1 → PutR s r (inc g i j) i' j n g' → p) : p :=
  T.inv (fun _ _ _ a b _ => absurd ⟨a, b⟩ h) (fun _ _ a b _ _ => absurd ⟨a, b⟩ hr) fun _ i' e1 e _ _ _ q => H i' e (by rw [Nat.succ.inj e1, e]; exact q)
theorem TakeP.inv {s : Nat → Nat} {g g' : Grd} {i j n d c : Nat} (T : TakeP s g i j n d c g') {p : Prop}
    (h1 : ∀ m, n = m + 1 → j < s i → 0 < g i j → ¬ (0 < j ∧ g i (j - 1) = g i j) → ¬ j < s (i + 1) → j = c → g' = dcr g i j → p)
    (h2 : ∀ m j', n = m + 1 → j = j' + 1 → j' + 1 < s i → 0 < g i (j' + 1) → g i j' = g i (j' + 1) → TakeP s (dcr g i (j' + 1)) i j' m d c g' → p)
    (h3 : ∀ m, n = m + 1 → j < s i → 0 < g i j → ¬ (0 < j ∧ g i (j - 1) = g i j) → j < s (i + 1) → TakeP s (dcr g i j) (i + 1) j m d c g' → p) : p := by
  induction T with
  | stop a b c d => exact h1 _ rfl a b c d rfl rfl
  | left a b c d => exact h2 _ _ rfl rfl a b c d
  | down a b c d e => exact h3 _ rfl a b c d e
theorem TakeP.pos {s : Nat → Nat} {g g' : Grd} {i j n d c : Nat} (T : TakeP s g i j n d c g') : j < s i ∧ 0 < g i j :=
  T.inv (fun _ _ a b _ _ _ _ => ⟨a, b⟩) (fun _ _ _ e a b _ _ => by rw [e]; exact ⟨a, b⟩) fun _ _ a b _ _ _ => ⟨a, b⟩
theorem TakeP.no0 {s : Nat → Nat} {g g' : Grd} {i j d c : Nat} {p : Prop} (T : TakeP s g i j 0 d c g') : p :=
  T.inv (fun _ e => nomatch e) (fun _ _ e => nomatch e) fun _ e => nomatch e
theorem TakeP.at_stop {s : Nat → Nat} {g g' : Grd} {i j n d c : Nat} (T : TakeP s g i j (n + 1) d c g') (h : ¬ (0 < j ∧ g i (j - 1) = g i j) ∧ ¬ j < s (i + 1)) : j = c ∧ g' = dcr g i j :=
  T.inv (fun _ _ _ _ _ _ a b => ⟨a, b⟩) (fun _ j' _ e _ _ z _ => absurd ⟨by rw [e]; exact Nat.succ_pos _, by rw [e]; exact z⟩ h.1) fun _ _ _ _ _ z _ => absurd z h.2
theorem TakeP.go_left {s : Nat → Nat} {g g' : Grd} {i j n d c : Nat} (T : TakeP s g i j (n + 1) d c g') (h : 0 < j ∧ g i (j - 1) = g i j) {p : Prop}
    (H : ∀ j', j = j' + 1 → TakeP s (dcr g i j) i j' n d c g' → p) : p :=
  T.inv (fun _ _ _ _ z _ _ _ => absurd h z) (fun _ j' e1 e _ _ _ q => H j' e (by rw [Nat.succ.inj e1, e]; exact q)) fun _ _ _ _ z _ _ => absurd h z
theorem TakeP.go_down {s : Nat → Nat} {g g' : Grd} {i j n d c : Nat} (T : TakeP s g i j (n + 1) d c g') (h : ¬ (¬ (0 < j ∧ g i (j - 1) = g i j) ∧ ¬ j < s (i + 1))) (hr : ¬ (0 < j ∧ g i (j - 1) = g i j)) : TakeP s (dcr g i j) (i + 1) j n d c g' :=
  T.inv (fun _ _ _ _ a b _ _ => absurd ⟨a, b⟩ h) (fun _ j' _ e _ _ z _ => absurd ⟨by rw [e]; exact Nat.succ_pos _, by rw [e]; exact z⟩ hr) fun _ e1 _ _ _ _ q => Nat.succ.inj e1 ▸ q
theorem Puts.inv {s : Nat → Nat} {g gf : Grd} {ops : List (Nat × Nat)} (T : Puts s g ops gf) {p : Prop} (h1 : ops = [] → gf = g → p)
    (h2 : ∀ r c a rest g', ops = (r, c) :: rest → c < s r → c < s a → ¬ c < s (a + 1) → PutR s r g a c 5 g' → Puts s g' rest gf → p) : p := by
  induction T with
  | nil => exact h1 rfl rfl
  | cons a b c d e => exact h2 _ _ _ _ _ rfl a b c d e
theorem Puts.of_nil {s : Nat → Nat} {g gf : Grd} (T : Puts s g [] gf) : gf = g := T.inv (fun _ e => e) fun _ _ _ _ _ e => nomatch e
theorem Puts.uncons {s : Nat → Nat} {g gf : Grd} {r c : Nat} {ops : List (Nat × Nat)} (T : Puts s g ((r, c) :: ops) gf) {p : Prop}
    (H : ∀ a g', c < s r → c < s a → ¬ c < s (a + 1) → PutR s r g a c 5 g' → Puts s g' ops gf → p) : p :=
  T.inv (fun e => nomatch e) fun r' c' a rest g' e h1 h2 h3 h4 h5 => by
    have e1 : r = r' := congrArg Prod.fst (List.cons.inj e).1
    have e2 : c = c' := congrArg Prod.snd (List.cons.inj e).1
    rw [(List.cons.inj e).2] at H
    exact H a g' (e1 ▸ e2 ▸ h1) (e2 ▸ h2) (e2 ▸ h3) (e1 ▸ e2 ▸ h4) h5
theorem Takes.inv {s : Nat → Nat} {R r : Nat} {g gf : Grd} {ops : List (Nat × Nat)} (T : Takes s R r g ops gf) {p : Prop} (h1 : r = R → ops = [] → p) (h2 : r < R → g r (s r - 1) = 0 → Takes s R (r + 1) g ops gf → p)
    (h3 : ∀ d c g' rest, r < R → 0 < g r (s r - 1) → ops = (r, c) :: rest → TakeP s g r (s r - 1) 5 d c g' → Takes s R r g' rest gf → p) : p := by
  induction T with
  | done => exact h1 rfl rfl
  | row a b c => exact h2 a b c
  | take a b c d => exact h3 _ _ _ _ a b rfl c d
theorem Takes.pick {s : Nat → Nat} {R r : Nat} {g gf : Grd} {ops : List (Nat × Nat)} (T : Takes s R r g ops gf) (hr : r < R) (h0 : 0 < g r (s r - 1)) {p : Prop}
    (H : ∀ d c g' rest, ops = (r, c) :: rest → TakeP s g r (s r - 1) 5 d c g' → Takes s R r g' rest gf → p) : p :=
  T.inv (fun e => absurd (e ▸ hr) (Nat.lt_irrefl _)) (fun _ e => absurd (e ▸ h0) (Nat.lt_irrefl _)) fun d c g' rest _ _ e a b => H d c g' rest e a b
theorem Takes.pass {s : Nat → Nat} {R r : Nat} {g gf : Grd} {ops : List (Nat × Nat)} (T : Takes s R r g ops gf) (hr : r < R) (h0 : ¬ 0 < g r (s r - 1)) : Takes s R (r + 1) g ops gf :=
  T.inv (fun e => absurd (e ▸ hr) (Nat.lt_irrefl _)) (fun _ _ q => q) fun _ _ _ _ _ z => absurd z h0
theorem Takes.fin {s : Nat → Nat} {R : Nat} {g gf : Grd} {ops : List (Nat × Nat)} (T : Takes s R R g ops gf) : ops = [] :=
  T.inv (fun _ e => e) (fun z => absurd z (Nat.lt_irrefl _)) fun _ _ _ _ z => absurd z (Nat.lt_irrefl _)
end Mine
end
open PySem PySem.W PySem.Calls PyProof.Rows PySem.Spec
namespace Mine
set_option compiler.extract_closed false
set_option hygiene false in
local macro_rules | `(tactic| walk_at "gK") => `(tactic| ((with_reducible refine Le.go Kz ?_); (try clear Kz Qz); (try dsimp only); (try walk_at "g")))
set_option hygiene false in
local macro_rules | `(tactic| walk_at "ge") => `(tactic| first
  | ((with_reducible refine' nm ?F ?_ ?hv ?hk ?hx ?hd); (case F => assumption); (case hv => first | rfl | assumption); (case hk => rfl); (case hx => rfl); (case hd => decide))
  | ((with_reducible refine ci ?_); intro _ _ _)
  | with_reducible refine wpAny_BinOp ?_
  | ((with_reducible refine wpAny_Compare1 ?_ ?hm); (case hm => rfl))
  | ((with_reducible refine cstr ?_); intro _ _ _ _)
  | with_reducible refine wpAny_UnaryOp ?_
  | with_reducible refine Tuple_ ?_
  | with_reducible refine wpAny_Constant_none ?_
  | with_reducible refine wpAny_Constant_bool ?_
  | with_reducible refine List_ ?_
  | ((with_reducible refine' nmCg ?F ?hcl ?K ?_ ?hk ?hx ?hn); (case hx => rfl); (case F => assumption); (case hcl => rfl); (case K => assumption); (case hk => rfl); (case hn => decide))
  | ((with_reducible refine' nmFg ?F ?hcl ?K ?_ ?hk ?hx ?hn ?hm); (case hx => rfl); (case F => assumption); (case hcl => rfl); (case K => assumption); (case hk => rfl); (case hn => decide); (case hm => decide))
  | with_reducible refine wpAny_IfExp ?_
  | with_reducible refine Subscript_ ?_)
set_option hygiene false in
local macro_rules | `(tactic| walk_at "g") => `(tactic| first
  | ((with_reducible show wpAny _ _ (eval _ _) _ _ _); walk_at "ge")
  | ((with_reducible show wpAny _ _ (execs _ _) _ _ _); first | ((with_reducible refine execs_consO ?_); intro Qz Kz) | with_reducible refine wpAny_execs_nil ?_)
  | ((with_reducible show wpAny _ _ (exec _ _) _ _ _); first
    | ((with_reducible refine wpAny_Assign_Name ?_ ?hs); (case hs => rfl))
    | with_reducible refine wpAny_If ?_
    | with_reducible refine wpAny_Return_some ?_
    | with_reducible refine wpAny_Return_none ?_
    | with_reducible refine wpAny_AugAssign_Name ?_
    | with_reducible refine wpAny_Break ?_)
  | ((with_reducible show wpAny _ _ (binaryOp _ _ _) _ _ _); (first | with_reducible refine r_add ?_ | with_reducible refine r_sub ?_); intro _ _ _)
  | ((with_reducible refine' stl ?F ?_ ?hk ?hx); (case F => assumption); (case hk => rfl); (case hx => rfl); intro _ _ _ _)
  | ((with_reducible show wpAny _ _ (compareOp _ _ _) _ _ _); with_reducible first
    | refine PySem.P.lt_int ?_
    | refine PySem.P.gt_int ?_
    | refine PySem.P.eq_int ?_
    | refine PySem.P.le_int ?_
    | refine PySem.P.ge_int ?_
    | refine PySem.P.ne_int ?_
    | refine eq_str ?_)
  | ((with_reducible show wpAny _ _ (isTrue _ _ _) _ _ _); first
    | ((with_reducible refine wpAny_isTrue_Compare1 ?_ ?hm); (case hm => rfl))
    | with_reducible refine wpAny_isTrue_BoolOp ?_
    | with_reducible refine wpAny_isTrue_Not ?_
    | ((with_reducible refine wpAny_isTrue_value ?_ ?he); (case he => rfl)))
  | with_reducible refine wpAny_truthy_bool ?_
  | with_reducible refine PySem.P.truthy_int ?_
  | ((with_reducible show wpAny _ _ (allTrue _ _ _) _ _ _); with_reducible first
    | refine wpAny_allTrue_Or_cons ?_
    | refine wpAny_allTrue_And_cons ?_
    | refine wpAny_allTrue_Or_nil ?_
    | refine wpAny_allTrue_And_nil ?_)
  | ((with_reducible refine' nmL ?F ?_ ?hv ?hk ?hx); (case F => assumption); (case hv => first | rfl | assumption); (case hk => rfl); (case hx => rfl))
  | ((with_reducible show wpAny _ _ (spliced _) _ _ _); first
    | ((with_reducible refine spliced_more ?_ ?he); (case he => first | exact star_LC | rfl))
    | with_reducible refine spliced_none ?_)
  | ((with_reducible refine r_iadd ?_); intro _ _ _)
  | ((with_reducible refine r_neg ?_); intro _ _ _)
  | walk_at "gK"
  | ((with_reducible refine Le.go (by assumption) ?_); (try dsimp only); (try walk_at "g")))
set_option hygiene false in
local macro_rules | `(tactic| walk_at "gs") => `(tactic| repeat (walk_at "g"; (try dsimp only)))
set_option hygiene false in
local macro_rules | `(tactic| walk_at "mm") => `(tactic| with_reducible first | assumption | exact List.mem_cons_self | (refine List.mem_cons_of_mem _ ?_; walk_at "mm") | (refine List.mem_append_right _ ?_; walk_at "mm") | (refine List.mem_append_left _ ?_; walk_at "mm"))
set_option compiler.extract_closed true
section
variable {w : World} {loose : List Str} {mean : ExcName → Option Value} {mg mb : Str → Option Value} {h : Heap} {tk : Nat}
theorem count_take (xs : List Str) (y x : Str) (i : Nat) (h : xs[i]? = some x) : (xs.take (i + 1)).count y = (xs.take i).count y + (if x = y then 1 else 0) := by
  rw [List.take_add_one, h, List.count_append]
  simp [List.count_cons, List.count_nil]
theorem t_countOf {h : Heap} {tk B : Nat} (G : Gd w loose mean mg mb h) {ax : Addr} {xs : List Str} {y : Str} {u : Tok} (R : RD (At h) B (.ref ax) (.list (xs.map Dat.str))) (hB : B < u) :
    Fn w (.ref 80) [.ref ax, .str y u] 1 8 [] h tk (fun r h' _ => ∃ t, r = .int (xs.count y : Nat) t) := by
  intro dp un fr gd s₀ Q hd hu H
  refine enterP (by assumption) (by rfl) (by rfl) (by (first | lia | omega)) (by rfl) (by rfl) ?_ (by rfl) (by rfl) (by rfl) (by decide)
  intro fr' L h₁ tk₁ t₁ F
  walk_at "gs"
  rename_i t tk' t₂ h' tk'' t₃ F
  refine R.lisR fun o vs hm hl ra => ?_
  refine wpAny_For ?_ (by intro _; rfl)
  walk_at "gs"
  refine itrL (F.keep _ _ hm) hl fun I h2 k2 n2 s2 => ?_
  replace F := F.its k2 n2
  refine forD (src := [(ax, o)]) (fun i l N _ => (∃ t, lk l "count" = some (.int ((xs.take i).count y : Nat) t)) ∧ lk l "b" = some (.str y u)) (Dr.list hl rfl) F s2 ⟨⟨_, rfl⟩, rfl⟩ (fun _ _ _ _ _ q hq => by rw [List.mem_singleton.mp hq]; exact .inl hm) ?_ ?_
  · rintro i b l N Is h₂ tkj tk₂ _ _ hi hbI hS t4 t5 ⟨⟨tc, hc⟩, hb⟩ F
    refine drV hbI F fun v hv F => ?_
    refine ra.atE hv fun x hx rv => ?_
    refine rv.strE fun t ev h0 h1 => ?_
    replace F := F.val ev
    have ct := count_take xs y x i hx
    walk_at "gs"
    with_reducible refine is_strs (G.K.keeps F.keep) h0 (Nat.ne_of_gt (Nat.lt_of_le_of_lt (Nat.zero_le _) hB)) (fun e => absurd (e ▸ h1) (Nat.not_le_of_lt hB)) ?_
    intro r hr
    walk_at "gs"
    cases r with
    | true =>
      repeat refine iteT rfl ?_
      walk_at "gs"
      replace F := (‹Fm _ _ _ _ _› : Fm _ L _ _ _)
      exact TnD.next F ⟨⟨_, by rw [ct, if_pos (hr rfl)]; rfl⟩, hb⟩
    | false =>
      repeat refine iteF Bool.false_ne_true ?_
      walk_at "gs"
      refine iteP (fun e => ?_) fun e => ?_
      · skip
        repeat refine iteT rfl ?_
        walk_at "gs"
        replace F := (‹Fm _ _ _ _ _› : Fm _ L _ _ _)
        exact TnD.next F ⟨⟨_, by rw [ct, if_pos (by simpa using e)]; rfl⟩, hb⟩
      · skip
        walk_at "gs"
        repeat refine iteF Bool.false_ne_true ?_
        walk_at "gs"
        exact TnD.next F ⟨⟨_, by rw [ct, if_neg (by simpa using e)]; exact hc⟩, hb⟩
  · rintro l N h₂ tkj tk₂ t4 t5 ⟨⟨tc, hc⟩, hb⟩ F
    walk_at "gs"
    refine H _ _ _ (by (first | lia | omega)) (fun b o _ => F.keep b o) ⟨tc, ?_⟩
    have e : vs.length = xs.length := by rw [ra.length, List.length_map]
    rw [e, List.take_length]
theorem t_eq (G : Gd w loose mean mg mb h) (a b : Int) (t u : Tok) : Fn w (.ref 45) [.int a t, .int b u] 1 8 [] h tk (fun r _ _ => r = .bool (a == b)) := by
  intro dp un fr gd s₀ Q hd hu H
  refine enterP (by assumption) (by rfl) (by rfl) (by (first | lia | omega)) (by rfl) (by rfl) ?_ (by rfl) (by rfl) (by rfl) (by decide)
  intro fr' L h₁ tk₁ t₁ F
  walk_at "gs"
  exact H _ _ _ (by (first | lia | omega)) (fun b o _ => F.keep b o) rfl
theorem t_add (G : Gd w loose mean mg mb h) (a b : Int) (t u : Tok) : Fn w (.ref 52) [.int a t, .int b u] 1 8 [] h tk (fun r _ _ => ∃ t, r = .int (a + b) t) := by
  intro dp un fr gd s₀ Q hd hu H
  refine enterP (by assumption) (by rfl) (by rfl) (by (first | lia | omega)) (by rfl) (by rfl) ?_ (by rfl) (by rfl) (by rfl) (by decide)
  intro fr' L h₁ tk₁ t₁ F
  walk_at "gs"
  exact H _ _ _ (by (first | lia | omega)) (fun b o _ => F.keep b o) ⟨_, rfl⟩
theorem t_sub (G : Gd w loose mean mg mb h) (a b : Int) (t u : Tok) : Fn w (.ref 73) [.int a t, .int b u] 1 8 [] h tk (fun r _ _ => ∃ t, r = .int (a - b) t) := by
  intro dp un fr gd s₀ Q hd hu H
  refine enterP (by assumption) (by rfl) (by rfl) (by (first | lia | omega)) (by rfl) (by rfl) ?_ (by rfl) (by rfl) (by rfl) (by decide)
  intro fr' L h₁ tk₁ t₁ F
  walk_at "gs"
  exact H _ _ _ (by (first | lia | omega)) (fun b o _ => F.keep b o) ⟨_, rfl⟩
theorem t_mul (G : Gd w loose mean mg mb h) (a b : Int) (t u : Tok) (hm : IntMulOk a b) : Fn w (.ref 59) [.int a t, .int b u] 1 8 [] h tk (fun r _ _ => ∃ t, r = .int (a * b) t) := by
  intro dp un fr gd s₀ Q hd hu H
  refine enterP (by assumption) (by rfl) (by rfl) (by (first | lia | omega)) (by rfl) (by rfl) ?_ (by rfl) (by rfl) (by rfl) (by decide)
  intro fr' L h₁ tk₁ t₁ F
  walk_at "gs"
  refine r_mul (fun t tk' t2 => ?_) hm
  walk_at "gK"
  exact H _ _ _ (by (first | lia | omega)) (fun b o _ => F.keep b o) ⟨_, rfl⟩
theorem t_neg (G : Gd w loose mean mg mb h) (a : Int) (t : Tok) : Fn w (.ref 66) [.int a t] 1 8 [] h tk (fun r _ _ => ∃ t, r = .int (-a) t) := by
  intro dp un fr gd s₀ Q hd hu H
  refine enterP (by assumption) (by rfl) (by rfl) (by (first | lia | omega)) (by rfl) (by rfl) ?_ (by rfl) (by rfl) (by rfl) (by decide)
  intro fr' L h₁ tk₁ t₁ F
  walk_at "gs"
  exact H _ _ _ (by (first | lia | omega)) (fun b o _ => F.keep b o) ⟨_, rfl⟩
theorem t_getitem (G : Gd w loose mean mg mb h) {a : Addr} {o : Obj} {vs : List Value} (e : h.get? a = some o) (hl : IsLst o vs) (k : Int) (t : Tok) {v : Value} (h0 : 0 ≤ k) (hf : k < 2 ^ 63) (hx : vs[k.toNat]? = some v) :
    Fn w (.ref 87) [.ref a, .int k t] 1 8 [] h tk (fun r _ _ => r = v) := by
  intro dp un fr gd s₀ Q hd hu H
  refine enterP (by assumption) (by rfl) (by rfl) (by (first | lia | omega)) (by rfl) (by rfl) ?_ (by rfl) (by rfl) (by rfl) (by decide)
  intro fr' L h₁ tk₁ t₁ F
  walk_at "gs"
  refine itL (F.keep _ _ e) hl h0 hf hx ?_
  walk_at "gK"
  exact H _ _ _ (by (first | lia | omega)) (fun b o _ => F.keep b o) rfl
theorem t_setitem {a : Addr} (G : Gd w loose mean mg mb (hideAll h [a])) {o : Obj} {vs : List Value} (e : h.get? a = some o) (hl : IsLst o vs) (k : Int) (t : Tok) {v : Value} (h0 : 0 ≤ k) (hf : k < vs.length) (hs : vs.length < 2 ^ 62) :
    Fn w (.ref 94) [.ref a, .int k t, v] 1 8 [a] h tk (fun r h' _ => r = .none ∧ ∃ o', h'.get? a = some o' ∧ IsLst o' (vs.set k.toNat v)) := by
  intro dp un fr gd s₀ Q hd hu H
  refine enterN (N := [(a, o)]) G hide_kp (fun q hq => by rw [List.mem_singleton.mp hq]; exact ⟨e, hideAll_none _ (.head _)⟩) (List.nodup_cons.mpr ⟨(fun h => nomatch h), List.nodup_nil⟩) (by rfl) (by rfl) (by (first | lia | omega)) (by rfl) (by rfl) ?_ (by rfl) (by rfl) (by rfl) (by decide)
  intro fr' L h₁ tk₁ t₁ F
  walk_at "g"
  refine wpAny_Assign_Subscript ?_
  walk_at "gs"
  refine wpAny_setItem_list (s := St s₀ h₁ tk₁) (hl.is (F.led _ (.head _)).1) h0 (by (first | lia | omega)) (by simpa using hf) ?_
  intro h' hl' hs'
  walk_at "gs"
  obtain ⟨o', e', hc', n', hd'⟩ := hl'
  have F' := F.upd hs' e'
  exact H _ _ _ (by (first | lia | omega)) (hide_kpx F'.keep) ⟨rfl, o', e', hc', n', by rw [hd']; simp⟩
end
section
variable {w : World} {loose : List Str} {mean : ExcName → Option Value} {mg mb : Str → Option Value} {h : Heap} {tk : Nat}
noncomputable abbrev nD (n : Nat) : Dat := .int (n : Int)
theorem t_depth (G : Gd w loose mean mg mb h) {B : Nat} {ax : Addr} {ss : List Nat} (R : RD (At h) B (.ref ax) (.list (ss.map nD))) (hl : ss.length ≤ 1000) (c : Nat) (t : Tok) :
    Fn w (.ref 294) [.ref ax, .int c t] 2 16 [] h tk (fun r _ _ => ∃ t, r = .int ((ss.filter (fun s => decide (c < s))).length : Nat) t) := by
  intro dp un fr gd s₀ Q hd hu H
  refine R.lisR fun lo items hm hlo ra => ?_
  refine enterC (N := []) [("sizes", .ref ax)] G (fun _ _ e => e) (fun _ hq => nomatch hq) List.nodup_nil (by rfl) (by rfl) (by (first | lia | omega)) (BindsTo.of_eq (by rfl)) (by rfl) (by decide) (fun _ => bindL_of) ?_ (by rfl) (by rfl) (by rfl)
  intro fr' L h₁ tk₁ Cs t₁ hC F
  obtain ⟨o0, rfl, hc0⟩ := CellsAre.one hC
  replace hc0 : o0.data = .cell (some (.int c t)) := hc0
  walk_at "gs"
  refine callB F G (bn_len G) bv_len ?_
  refine spliced_more ?_ star_LC
  have kc : Cl h₁ (L + 1) (.int c t) := ⟨o0, (F.led _ (.head _)).1, hc0⟩
  refine compE (cl := [("column", L + 1)]) ?_ (by rfl)
  walk_at "gs"
  refine itrL (F.keep _ _ hm) hlo fun I h₂ k₂ n₂ s₂ => ?_
  refine comp1 (fun i vs _ _ => vs.length = ((ss.take i).filter (fun s => decide (c < s))).length) F k₂ n₂ s₂ (fun C => Dr.list hlo rfl) (fun q hq => by rw [List.mem_singleton.mp hq]; exact F.keep _ _ hm) rfl ?_ ?_
  · rintro C D i b l vs m N Is h₃ tkj tk₃ hi hbI t4 t5 hj F₃
    have hle : items.length = ss.length := by rw [ra.length, List.length_map]
    refine drI (RA.toInts (ns := ss.map fun d : Nat => (d : Int)) (by rw [List.map_map]; exact ra)) hbI F₃ fun z tz hz F₃ => ?_
    refine opsE hz fun s hs ez => ?_
    replace F₃ := F₃.val (congrArg (Value.int · tz) ez)
    have ct : (ss.take (i + 1)).filter (fun s => decide (c < s)) = (ss.take i).filter (fun s => decide (c < s)) ++ (if c < s then [s] else []) := by
      rw [List.take_add_one, hs, List.filter_append]
      by_cases h : c < s <;> simp [h]
    refine wpAny_tests_one ?_
    walk_at "gs"
    refine iteP (fun e => ?_) fun e => ?_
    · skip
      have e : c < s := by simpa using e
      walk_at "gs"
      refine CE.mk (Nat.le_refl _) F₃ ?_ ?_
      · rw [hj]
        refine Nat.le_trans (List.length_filter_le _ _) (Nat.le_trans (List.length_take_le _ _) (Nat.le_trans (by (first | lia | omega) : i ≤ 1000) (by decide)))
      · rw [List.length_append, hj, ct, if_pos e, List.length_append]; rfl
    · skip
      have e : ¬ c < s := by simpa using e
      exact CS.mk (Nat.le_refl _) F₃ (by rw [hj, ct, if_neg e, List.append_nil])
  · intro C D l' vs m N' h₃ tkj tk₃ t4 t5 hj F₃
    have hle : items.length = ss.length := by rw [ra.length, List.length_map]
    rw [hle, List.take_length] at hj
    refine postV F F₃ fun h₄ F₄ => ?_
    walk_at "gs"
    refine lenL (F₄.led (D, _) (.tail _ (.head _))).1 (IsLst.of _ _) ?_ fun t5 tk5 t6 => ?_
    · rw [hj]; exact Nat.lt_of_le_of_lt (List.length_filter_le _ _) (Nat.lt_of_le_of_lt hl (by decide))
    walk_at "gs"
    exact H _ _ _ (by (first | lia | omega)) (fun b o _ => F₄.keep b o) ⟨t5, by rw [hj]⟩
end
section
variable {w : World} {loose : List Str} {mean : ExcName → Option Value} {mg mb : Str → Option Value} {h : Heap} {tk : Nat}
noncomputable abbrev p115 : Pos := ⟨57, 4, 66, 28⟩
theorem t_int2digits (G : Gd w loose mean mg mb (hideAll h [110])) (T : TbOk h 110 p115 "_int2digits.<locals>.inner") (X n : Nat) (t u : Tok) (hn : 0 < n) (hn2 : n ≤ 5000) {M : Nat} (hM : M ≤ 2000000) (hX : X < 2 ^ M) :
    Fn w (.ref 115) [.int X t, .int n u] 40 200 [110] h tk (fun r h' _ => TbOk h' 110 p115 "_int2digits.<locals>.inner" ∧ ∃ a o vs, r = .ref a ∧ New h h' a o ∧ IsLst o vs ∧
      vs.length = (Builtin.Int.intBits (X : Int) + n - 1) / n ∧ ∀ i, i < vs.length → ∃ t, vs[i]? = some (.int ((X / 2 ^ (n * i) % 2 ^ n : Nat) : Int) t)) := by
  intro dp un fr gd s₀ Q hd hu H
  have T0 := T
  obtain ⟨ps, hP, hT⟩ := T
  refine enterC (N := [(110, tabObj ps)]) [("a", .int X t)] G hide_kp (fun q hq => by rw [List.mem_singleton.mp hq]; exact ⟨hP, hideAll_none _ (.head _)⟩) (List.nodup_cons.mpr ⟨(fun h => nomatch h), List.nodup_nil⟩) (by rfl) (by rfl) (by (first | lia | omega)) (BindsTo.of_eq (by rfl)) (by rfl) (by decide) (fun _ => bindL_of) ?_ (by rfl) (by rfl) (by rfl)
  intro fr' L h₁ tk₁ Cs t₁ hC F
  obtain ⟨o1, o2, o3, rfl, d1, d2, d3⟩ := CellsAre.three hC
  replace d1 : o1.data = .cell none := d1
  replace d2 : o2.data = .cell none := d2
  replace d3 : o3.data = .cell (some (.int n u)) := d3
  have hb := bits_le hX
  have k0 := F.rkp [(L + 3, o1), (L + 2, o2), (110, tabObj ps)] ((List.Sublist.refl _).cons_cons _ |>.cons_cons _ |>.trans (by simp))
  have kn : Cl (hideAll h₁ (L :: ([(L + 3, o1), (L + 2, o2), (110, tabObj ps)] : Ld).map (·.1))) (L + 1) (.int n u) := ⟨o3, hideAll_get _ (F.of (q := (L + 1, o3)) (by walk_at "mm")) (by
    have := F.nd; have := (F.led (L + 1, o3) (by walk_at "mm")).2; simp at *; (first | lia | omega)), d3⟩
  replace G := G.keeps k0
  replace F := F.rebase [(L + 3, o1), (L + 2, o2), (110, tabObj ps)] (by simp)
  generalize hg : hideAll h₁ (L :: ([(L + 3, o1), (L + 2, o2), (110, tabObj ps)] : Ld).map (·.1)) = g at *
  walk_at "gs"
  refine mkL F (by show 1 ≤ sizeLine; decide) fun lx h₂ _ _ F => ?_
  walk_at "gs"
  refine MethodCall_ ?_
  walk_at "gs"
  with_reducible refine getMethod_int_bit_length ?_
  refine cw0 ?_
  refine r_bl fun t2 tk2 t3 => ?_
  walk_at "gs"
  refine r_fdiv (by (first | lia | omega)) (by
    have : (n : Int).natAbs = n := rfl
    rw [this]; exact Nat.lt_of_le_of_lt (Nat.log2_le_self n) (by (first | lia | omega))) fun t4 tk3 t5 => ?_
  have hk : ((Builtin.Int.intBits (X : Int) : Int) + n - 1).fdiv n = ((Builtin.Int.intBits (X : Int) + n - 1) / n : Nat) := by
    rw [show (Builtin.Int.intBits (X : Int) : Int) + n - 1 = ((Builtin.Int.intBits (X : Int) + n - 1 : Nat) : Int) by (first | lia | omega), Int.fdiv_eq_ediv_of_nonneg _ (by (first | lia | omega))]; rfl
  rw [hk]
  refine r_rep1 F (F.led _ (.head _)).1 (Int.le_trans (by decide) (Int.natCast_nonneg _)) ?_ fun D od h₃ hoD F => ?_
  · have : ((Builtin.Int.intBits (X : Int) + n - 1) / n) ≤ Builtin.Int.intBits (X : Int) + n - 1 := Nat.div_le_self _ _
    (first | lia | omega)
  replace F := F.pull 3 (q := (L + 2, o2))
  with_reducible refine' stC ?hc ?F ?hd ?_ ?hk ?hx
  case F => exact F
  case hd => exact d2
  case hc => rfl
  case hk => rfl
  case hx => rfl
  intro h₄ o2' d2' F
  replace F : Fm _ L _ _ _ := F
  simp only [List.eraseIdx] at F
  walk_at "gs"
  refine nestDef_K (by rfl) (by rfl) (by rfl) ?_
  replace F := F.pull 4 (q := (110, tabObj ps))
  refine mkF (pos := p115) G F G.c1 ?_ (by rfl) (by rfl) ?_
  · rcases hT with h | ⟨c', e, r⟩
    · exact .inl h
    · exact .inr ⟨c', e, (rec_hide r (by simpa using rec_ne T0 r)).keeps k0⟩
  intro f fo c' ct doc ps' Xc h₅ tk₅ t6 F hfo hrec hps
  simp only [List.eraseIdx, List.cons_append, List.nil_append] at F
  replace F := F.pull 5 (q := (L + 3, o1))
  with_reducible refine' stC ?hc ?F ?hd ?_ ?hk ?hx
  case F => exact F
  case hd => exact d1
  case hc => rfl
  case hk => rfl
  case hx => rfl
  intro h₆ o1' d1' F
  replace F : Fm _ L _ _ _ := F
  simp only [List.eraseIdx] at F
  replace F := F.pull 4 (q := (D, od))
  simp only [List.eraseIdx] at F
  replace F := F.pull 3 (q := (110, tabObj ps'))
  simp only [List.eraseIdx] at F
  obtain ⟨F, stay, k1⟩ := F.rebase2 [(110, tabObj ps'), (D, od)] _
  replace G := G.keeps k1
  have kn := kn.keeps k1
  have kf := stay (f, fo) (by simp)
  have ki : Cl _ (L + 3) (.ref f) := ⟨o1', stay (L + 3, o1') (by simp), d1'⟩
  have ka : Cl _ (L + 2) (.ref D) := ⟨o2', stay (L + 2, o2') (by simp), d2'⟩
  have kr := hrec _ k1 (fun q hq => stay q (by simp [hq]))
  generalize hg2 : hideAll h₆ (L :: ([(110, tabObj ps'), (D, od)] : Ld).map (·.1)) = g2 at *
  replace k0 : Kp (hideAll h [110]) g2 := fun b o e => k1 _ _ (k0 _ _ e)
  clear hg hg2 stay k1 hrec
  have inner : ∀ (k lo hi Y : Nat) (v1 v2 v3 : Tok) (h₂ : Heap) (tk₂ : Nat) (o : Obj) (vs : List Value), lo < hi → hi - lo ≤ 2 ^ k → Y < 2 ^ (n * (hi - lo)) → Kp g2 (hideAll h₂ [D]) → h₂.get? D = some o → IsLst o vs → hi ≤ vs.length → n * vs.length ≤ 3000000 → k ≤ 30 →
      Fn w (.ref f) [.int Y v1, .int lo v2, .int hi v3] (k + 1) (3 * k + 8) [D] h₂ tk₂ (fun _ h' _ => ∃ o' vs', h'.get? D = some o' ∧ IsLst o' vs' ∧ Dg vs vs' lo hi Y n) := by
    clear H F
    intro k
    induction k using Nat.strongRecOn with
    | ind k ih => 
      intro lo hi Y v1 v2 v3 h₂ tk₂ o vs hlt hk hY kp eD hl hle hlen hk30
      intro dp un fr gd s₀ Q hd hu H
      refine enterX (N := [(D, o)]) (G.keeps kp) hide_kp (fun q hq => by rw [List.mem_singleton.mp hq]; exact ⟨eD, hideAll_none _ (.head _)⟩) (List.nodup_cons.mpr ⟨(fun h => nomatch h), List.nodup_nil⟩) (hide_kp _ _ (kp _ _ kf)) hfo (kr.keeps fun _ _ e => hide_kp _ _ (kp _ _ e)) (by (first | lia | omega)) (by rfl) (by rfl) ?_ (by rfl) (by rfl) (by rfl) (by decide)
      intro fr' L h₁ tk₁ t₁ F
      replace kn := kn.keeps kp
      replace ka := ka.keeps kp
      replace ki := ki.keeps kp
      replace kf := kp _ _ kf
      have hvl : vs.length ≤ 3000000 := Nat.le_trans (Nat.le_mul_of_pos_left _ hn) hlen
      walk_at "gs"
      by_cases e : lo + 1 = hi
      · subst e
        rw [if_pos (by simp)]
        walk_at "g"
        refine wpAny_Assign_Subscript ?_
        walk_at "gs"
        refine wpAny_setItem_list (s := St s₀ h₁ _) (hl.is (F.of (q := (D, o)) (.head _))) (by (first | lia | omega)) (by (first | lia | omega)) (by simp; (first | lia | omega)) ?_
        intro h' hl' hs'
        walk_at "gs"
        obtain ⟨o', e', hc', n', hd'⟩ := hl'
        have F' := F.upd hs' e'
        exact H _ _ _ (by (first | lia | omega)) (hide_kpx F'.keep) ⟨o', _, e', ⟨hc', n', by rw [hd']; simp; rfl⟩, Dg.one hY (by (first | lia | omega))⟩
      · rw [if_neg (by simp; (first | lia | omega))]
        obtain ⟨k, rfl⟩ : ∃ k', k = k' + 1 := ⟨k - 1, by
          cases k with
          | zero => rw [Nat.pow_zero] at hk; (first | lia | omega)
          | succ k => rfl⟩
        walk_at "gs"
        refine r_shr (by decide) fun t7 tk7 t8 => ?_
        have em : ((lo : Int) + hi).fdiv (2 ^ (1 : Int).toNat) = (((lo + hi) / 2 : Nat) : Int) := by
          rw [show (2 ^ (1 : Int).toNat : Int) = ((2 : Nat) : Int) by decide, ← Int.natCast_add, fdiv_nat]
        rw [em]
        generalize hmid : (lo + hi) / 2 = mid
        have m1 : lo < mid := by (first | lia | omega)
        have m2 : mid < hi := by (first | lia | omega)
        walk_at "gs"
        have es : ((mid : Int) - lo) = ((mid - lo : Nat) : Int) := by (first | lia | omega)
        rw [es]
        refine r_mul (fun t9 tk9 t10 => ?_) (IntMulOk.of_le (m := 32) (n := 32) (intBits_le_iff.mpr (by simp; have := Nat.mul_le_mul_right vs.length hn; (first | lia | omega))) (intBits_le_iff.mpr (by simp; (first | lia | omega))) (by decide))
        rw [← Int.natCast_mul]
        have hsz : n * (hi - lo) ≤ 3000000 := Nat.le_trans (Nat.mul_le_mul_left n (show hi - lo ≤ vs.length by (first | lia | omega))) hlen
        have hsz2 : (mid - lo) * n ≤ 3000000 := by rw [Nat.mul_comm]; exact Nat.le_trans (Nat.mul_le_mul_left n (show mid - lo ≤ hi - lo by (first | lia | omega))) hsz
        walk_at "gs"
        refine r_shr (Int.natCast_nonneg _) fun t11 tk11 t12 => ?_
        rw [shr_nat]
        walk_at "gs"
        refine r_shl (Int.natCast_nonneg _) ?_ fun t13 tk13 t14 => ?_
        · have := bits_le (Nat.lt_of_le_of_lt (Nat.div_le_self Y (2 ^ ((mid - lo) * n))) hY)
          (first | lia | omega)
        rw [shl_nat]
        refine r_xor fun t15 tk15 t16 => ?_
        rw [xor_hi]
        walk_at "gs"
        refine wpAny_Expr_any ?_
        refine Call_ ?_ call_eq
        walk_at "gs"
        replace F := ‹Fm _ _ _ _ _›
        refine callV (fnAt_of (F.keep _ _ kf) hfo) ?_
        walk_at "gs"
        refine ⟨fnAt_of (F.keep _ _ kf) hfo, ?_⟩
        refine ih k (by (first | lia | omega)) lo mid _ _ _ _ _ _ o vs m1 (half_le hk hmid hlt).1 lo_lt (kp_hide kp F.keep) (F.of (q := (D, o)) (.head _)) hl (by (first | lia | omega)) hlen (by (first | lia | omega)) (dp + 1) (un + 3) fr' gd _ _ (by (first | lia | omega)) (by (first | lia | omega)) ?_
        rintro r h3 tk3 t17 kx ⟨o', vs', e', hl', dg⟩
        replace F := F.updX kx e'
        have hle' : vs'.length = vs.length := dg.1
        walk_at "gs"
        refine wpAny_Expr_any ?_
        refine Call_ ?_ call_eq
        walk_at "gs"
        refine callV (fnAt_of (F.keep _ _ kf) hfo) ?_
        walk_at "gs"
        refine ⟨fnAt_of (F.keep _ _ kf) hfo, ?_⟩
        refine ih k (by (first | lia | omega)) mid hi _ _ _ _ _ _ o' vs' m2 (half_le hk hmid hlt).2 (hi_lt (by (first | lia | omega)) (by (first | lia | omega)) hY) (kp_hide kp F.keep) (F.of (q := (D, o')) (.head _)) hl' (by (first | lia | omega)) (by rw [hle']; exact hlen) (by (first | lia | omega)) (dp + 1) (un + 3) fr' gd _ _ (by (first | lia | omega)) (by (first | lia | omega)) ?_
        rintro r h4 tk4 t18 kx ⟨o'', vs'', e'', hl'', dg'⟩
        replace F := F.updX kx e''
        walk_at "gs"
        exact H _ _ _ (by (first | lia | omega)) (hide_kpx F.keep) ⟨o'', vs'', e'', hl'', dg.two (by (first | lia | omega)) (by (first | lia | omega)) dg'⟩
  obtain ⟨q1, q2⟩ := dig_count (X := X) hn
  generalize hK : (Builtin.Int.intBits (X : Int) + n - 1) / n = K at *
  simp only [Int.toNat_natCast] at hoD
  have hnK : K ≤ n * K := Nat.le_mul_of_pos_left _ hn
  have fin : ∀ (h' : Heap) (tk' : Nat) (od' : Obj) (vs : List Value), tk ≤ tk' → Fm g2 L [("a", .int X t)] [(110, tabObj ps'), (D, od')] h' → IsLst od' vs → vs.length = K → (∀ i, i < vs.length → ∃ t, vs[i]? = some (.int ((X / 2 ^ (n * i) % 2 ^ n : Nat) : Int) t)) → Q (.ref D) (St s₀ h' tk') := by
    intro h' tk' od' vs ht F hod hlen hdig
    refine H _ _ _ ht (hide_kpx fun b o e => F.keep _ _ (k0 _ _ e)) ⟨⟨ps', F.of (q := (110, tabObj ps')) (.head _), .inr ⟨c', hps, kr.keeps F.keep⟩⟩, D, od', vs, rfl, ⟨hide_none (kg_none k0 (F.led (D, od') (.tail _ (.head _))).2.2) ?_, F.of (q := (D, od')) (.tail _ (.head _))⟩, hod, hlen, hdig⟩
    have := F.nd
    simp at this
    simp
    exact fun z => this z.symm
  try dsimp only
  walk_at "gs"
  by_cases hX0 : X = 0
  · rw [if_neg (by simp [hX0])]
    walk_at "gs"
    have hK0 : K = 0 := by
      rw [← hK, hX0]
      exact Nat.div_eq_of_lt (by show 0 + n - 1 < n; (first | lia | omega))
    exact fin _ _ _ _ (by (first | lia | omega)) F hoD List.length_replicate (by intro i hi; rw [List.length_replicate] at hi; (first | lia | omega))
  · rw [if_pos (by simp; (first | lia | omega))]
    walk_at "gs"
    refine wpAny_Expr_any ?_
    refine Call_ ?_ call_eq
    walk_at "gs"
    refine callV (fnAt_of (F.keep _ _ kf) hfo) ?_
    walk_at "gs"
    refine callB F G (bn_len G) bv_len ?_
    walk_at "gs"
    refine lenL (F.of (q := (D, od)) (.tail _ (.head _))) hoD (by rw [List.length_replicate]; (first | lia | omega)) fun t8 tk8 t9 => ?_
    rw [List.length_replicate]
    walk_at "gs"
    refine ⟨fnAt_of (F.keep _ _ kf) hfo, ?_⟩
    replace F := F.pull 1 (q := (D, od))
    simp only [List.eraseIdx] at F
    have hKp : 0 < K := by
      rw [← hK]; exact Nat.div_pos (by have := bits_pos hX0; (first | lia | omega)) hn
    refine inner 22 0 K X _ _ _ _ _ od _ hKp (by (first | lia | omega)) q1 (fun b o e => hideAll_get _ (F.keep _ _ e) ?_) (F.of (q := (D, od)) (.head _)) hoD (by rw [List.length_replicate]; exact Nat.le_refl _) (by rw [List.length_replicate]; (first | lia | omega)) (by decide) (dp + 1) (un + 3) fr' gd _ _ (by (first | lia | omega)) (by (first | lia | omega)) ?_
    · intro hm
      rw [List.mem_singleton] at hm
      subst hm
      rw [(F.led (b, od) (.head _)).2.2] at e; cases e
    rintro r h3 tk9 t10 kx ⟨o', vs', e', hl', dg⟩
    replace F := (F.updX kx e').pull 1 (q := (110, tabObj ps'))
    simp only [List.eraseIdx] at F
    walk_at "gs"
    have hlen : vs'.length = K := by rw [dg.1, List.length_replicate]
    exact fin _ _ _ _ (by (first | lia | omega)) F hl' hlen (fun i hi => by simpa using dg.2.1 i (Nat.zero_le _) (by (first | lia | omega)))
end
section
variable {w : World} {loose : List Str} {mean : ExcName → Option Value} {mg mb : Str → Option Value} {h : Heap} {tk : Nat}
noncomputable abbrev p122 : Pos := ⟨72, 4, 77, 55⟩
theorem t_digits2int (G : Gd w loose mean mg mb (hideAll h [117])) (T : TbOk h 117 p122 "_digits2int.<locals>.inner") {ax : Addr} {lo : Obj} {vs : List Value} {ds : List Nat} (hax : h.get? ax = some lo) (hlo : IsLst lo vs) (h117 : ax ≠ 117)
    (hv : IntsAre vs (ds.map fun d : Nat => (d : Int))) (n : Nat) (u : Tok) (hn : 0 < n) (hn2 : n ≤ 5000) (hds : ∀ d ∈ ds, d < 2 ^ n) (hl : n * ds.length ≤ 3000000) :
    Fn w (.ref 122) [.ref ax, .int n u] 40 200 [117] h tk (fun r h' _ => TbOk h' 117 p122 "_digits2int.<locals>.inner" ∧ ∃ t, r = .int (dval n ds : Nat) t) := by
  intro dp un fr gd s₀ Q hd hu H
  have T0 := T
  obtain ⟨ps, hP, hT⟩ := T
  refine enterC (N := [(117, tabObj ps)]) [] G hide_kp (fun q hq => by rw [List.mem_singleton.mp hq]; exact ⟨hP, hideAll_none _ (.head _)⟩) (List.nodup_cons.mpr ⟨(fun h => nomatch h), List.nodup_nil⟩) (by rfl) (by rfl) (by (first | lia | omega)) (BindsTo.of_eq (by rfl)) (by rfl) (by decide) (fun _ => bindL_of) ?_ (by rfl) (by rfl) (by rfl)
  intro fr' L h₁ tk₁ Cs t₁ hC F
  obtain ⟨o1, o2, o3, rfl, d1, d2, d3⟩ := CellsAre.three hC
  replace d1 : o1.data = .cell none := d1
  replace d2 : o2.data = .cell (some (.int n u)) := d2
  replace d3 : o3.data = .cell (some (.ref ax)) := d3
  replace F := F.pull 3 (q := (117, tabObj ps))
  simp only [List.cons_append, List.nil_append, List.eraseIdx] at F
  obtain ⟨F, stay, k0⟩ := F.rebase2 [(117, tabObj ps), (L + 3, o1)] _
  replace G := G.keeps k0
  have kn : Cl _ (L + 2) (.int n u) := ⟨o2, stay (L + 2, o2) (by simp), d2⟩
  have ka : Cl _ (L + 1) (.ref ax) := ⟨o3, stay (L + 1, o3) (by simp), d3⟩
  have hax : _ := k0 ax lo (hideAll_get _ hax (by simpa using h117))
  generalize hg : hideAll h₁ (L :: ([(117, tabObj ps), (L + 3, o1)] : Ld).map (·.1)) = g at *
  clear stay hg
  walk_at "gs"
  refine nestDef_K (by rfl) (by rfl) (by rfl) ?_
  refine mkF (pos := p122) G F G.c2 ?_ (by rfl) (by rfl) ?_
  · rcases hT with h | ⟨c', e, r⟩
    · exact .inl h
    · exact .inr ⟨c', e, (rec_hide r (by simpa using rec_ne T0 r)).keeps k0⟩
  intro f fo c' ct doc ps' Xc h₅ tk₅ t6 F hfo hrec hps
  simp only [List.cons_append, List.nil_append] at F
  replace F := F.pull 2 (q := (L + 3, o1))
  with_reducible refine' stC ?hc ?F ?hd ?_ ?hk ?hx
  case F => exact F
  case hd => exact d1
  case hc => rfl
  case hk => rfl
  case hx => rfl
  intro h₆ o1' d1' F
  replace F : Fm _ L _ _ _ := F
  simp only [List.cons_append, List.nil_append, List.eraseIdx] at F
  replace F := F.pull 2 (q := (117, tabObj ps'))
  simp only [List.cons_append, List.nil_append, List.eraseIdx] at F
  obtain ⟨F, stay, k1⟩ := F.rebase2 [(117, tabObj ps')] _
  replace G := G.keeps k1
  replace kn := kn.keeps k1
  replace ka := ka.keeps k1
  replace hax := k1 _ _ hax
  have kf := stay (f, fo) (by simp)
  have ki : Cl _ (L + 3) (.ref f) := ⟨o1', stay (L + 3, o1') (by simp), d1'⟩
  have kr := hrec _ k1 (fun q hq => stay q (by simp [hq]))
  generalize hg2 : hideAll h₆ (L :: ([(117, tabObj ps')] : Ld).map (·.1)) = g2 at *
  replace k0 : Kp (hideAll h [117]) g2 := fun b o e => k1 _ _ (k0 _ _ e)
  clear hg2 stay k1 hrec
  have hvl : vs.length = ds.length := by rw [hv.length, List.length_map]
  have hdl : ds.length ≤ 3000000 := Nat.le_trans (Nat.le_mul_of_pos_left _ hn) hl
  have inner : ∀ (k lo hi : Nat) (v2 v3 : Tok) (h₂ : Heap) (tk₂ : Nat), lo < hi → hi - lo ≤ 2 ^ k → Kp g2 h₂ → hi ≤ ds.length → k ≤ 30 →
      Fn w (.ref f) [.int lo v2, .int hi v3] (k + 1) (3 * k + 8) [] h₂ tk₂ (fun r _ _ => ∃ t, r = .int (dval n (seg ds lo hi) : Nat) t) := by
    clear H F
    intro k
    induction k using Nat.strongRecOn with
    | ind k ih =>
      intro lo hi v2 v3 h₂ tk₂ hlt hk kp hle hk30
      intro dp un fr gd s₀ Q hd hu H
      refine enterX (N := []) (G.keeps kp) (fun _ _ e => e) (fun q hq => nomatch hq) List.nodup_nil (kp _ _ kf) hfo (kr.keeps kp) (by (first | lia | omega)) (by rfl) (by rfl) ?_ (by rfl) (by rfl) (by rfl) (by decide)
      intro fr' L h₁ tk₁ t₁ F
      replace kn := kn.keeps kp
      replace ka := ka.keeps kp
      replace ki := ki.keeps kp
      replace kf := kp _ _ kf
      walk_at "gs"
      by_cases e : lo + 1 = hi
      · subst e
        rw [if_pos (by simp)]
        walk_at "gs"
        obtain ⟨d, hd'⟩ : ∃ d, ds[lo]? = some d := ⟨ds[lo], by simp⟩
        obtain ⟨t, hv'⟩ := ints_get hv hd'
        refine itL (F.keep _ _ (kp _ _ hax)) hlo (by (first | lia | omega)) (by (first | lia | omega)) (by simpa using hv') ?_
        walk_at "gK"
        exact H _ _ _ (by (first | lia | omega)) (fun b o _ => F.keep b o) ⟨t, by rw [seg_one hd']⟩
      · rw [if_neg (by simp; (first | lia | omega))]
        obtain ⟨k, rfl⟩ : ∃ k', k = k' + 1 := ⟨k - 1, by
          cases k with
          | zero => rw [Nat.pow_zero] at hk; (first | lia | omega)
          | succ k => rfl⟩
        walk_at "gs"
        refine r_shr (by decide) fun t7 tk7 t8 => ?_
        have em : ((lo : Int) + hi).fdiv (2 ^ (1 : Int).toNat) = (((lo + hi) / 2 : Nat) : Int) := by
          rw [show (2 ^ (1 : Int).toNat : Int) = ((2 : Nat) : Int) by decide, ← Int.natCast_add, fdiv_nat]
        rw [em]
        generalize hmid : (lo + hi) / 2 = mid
        have m1 : lo < mid := by (first | lia | omega)
        have m2 : mid < hi := by (first | lia | omega)
        walk_at "gs"
        have es : ((mid : Int) - lo) = ((mid - lo : Nat) : Int) := by (first | lia | omega)
        rw [es]
        refine r_mul (fun t9 tk9 t10 => ?_) (IntMulOk.of_le (m := 32) (n := 32) (intBits_le_iff.mpr (by simp; (first | lia | omega))) (intBits_le_iff.mpr (by simp; (first | lia | omega))) (by decide))
        rw [← Int.natCast_mul]
        have hsz : n * (hi - lo) ≤ 3000000 := Nat.le_trans (Nat.mul_le_mul_left n (show hi - lo ≤ ds.length by (first | lia | omega))) hl
        have hsz2 : (mid - lo) * n ≤ 3000000 := by rw [Nat.mul_comm]; exact Nat.le_trans (Nat.mul_le_mul_left n (show mid - lo ≤ hi - lo by (first | lia | omega))) hsz
        walk_at "gs"
        replace F := ‹Fm _ _ _ _ _›
        refine Call_ ?_ call_eq
        walk_at "gs"
        refine callV (fnAt_of (F.keep _ _ kf) hfo) ?_
        walk_at "gs"
        refine ⟨fnAt_of (F.keep _ _ kf) hfo, ?_⟩
        refine Fn.iF (ih k (by (first | lia | omega)) mid hi _ _ _ _ m2 (half_le hk hmid hlt).2 (fun b o e => F.keep _ _ (kp _ _ e)) (by (first | lia | omega)) (by (first | lia | omega))) F (by (first | lia | omega)) (by (first | lia | omega)) fun h3 tk3 t18 t17 F => ?_
        walk_at "gs"
        refine r_shl (Int.natCast_nonneg _) ?_ fun t13 tk13 t14 => ?_
        · have := bits_le (seg_lt (lo := mid) (hi := hi) hds)
          have h5 : n * (hi - mid) ≤ n * (hi - lo) := Nat.mul_le_mul_left n (by (first | lia | omega))
          (first | lia | omega)
        rw [shl_nat]
        refine Call_ ?_ call_eq
        walk_at "gs"
        refine callV (fnAt_of (F.keep _ _ kf) hfo) ?_
        walk_at "gs"
        refine ⟨fnAt_of (F.keep _ _ kf) hfo, ?_⟩
        refine Fn.iF (ih k (by (first | lia | omega)) lo mid _ _ _ _ m1 (half_le hk hmid hlt).1 (fun b o e => F.keep _ _ (kp _ _ e)) (by (first | lia | omega)) (by (first | lia | omega))) F (by (first | lia | omega)) (by (first | lia | omega)) fun h4 tk4 t20 t19 F => ?_
        walk_at "gs"
        rw [← Int.natCast_add, ← seg_two (by (first | lia | omega)) (by (first | lia | omega)) hle]
        exact H _ _ _ (by (first | lia | omega)) (fun b o _ => F.keep b o) ⟨_, rfl⟩
  have fin : ∀ (h' : Heap) (tk' : Nat) (t : Tok) (l : List (Str × Value)), tk ≤ tk' → Fm g2 L l [(117, tabObj ps')] h' → Q (.int (dval n ds : Nat) t) (St s₀ h' tk') := by
    intro h' tk' t l ht F
    exact H _ _ _ ht (hide_kpx fun b o e => F.keep _ _ (k0 _ _ e)) ⟨⟨ps', F.of (q := (117, tabObj ps')) (.head _), .inr ⟨c', hps, kr.keeps F.keep⟩⟩, t, rfl⟩
  try dsimp only
  walk_at "gs"
  refine truL (F.keep _ _ hax) hlo (by (first | lia | omega)) fun tk7 t7 => ?_
  cases hds0 : ds with
  | nil =>
    subst hds0
    rw [if_neg (by cases hv; simp)]
    walk_at "gs"
    exact fin _ _ _ _ (by (first | lia | omega)) F
  | cons d0 ds0 =>
    rw [if_pos (by rw [hds0] at hv; cases hv; simp)]
    have hp : 0 < ds.length := by rw [hds0]; simp
    refine Call_ ?_ call_eq
    walk_at "gs"
    refine callV (fnAt_of (F.keep _ _ kf) hfo) ?_
    walk_at "gs"
    refine callB F G (bn_len G) bv_len ?_
    walk_at "gs"
    refine lenL (F.keep _ _ hax) hlo (by (first | lia | omega)) fun t8 tk8 t9 => ?_
    rw [hvl]
    walk_at "gs"
    refine ⟨fnAt_of (F.keep _ _ kf) hfo, ?_⟩
    refine Fn.iF (inner 22 0 ds.length _ _ _ _ hp (by (first | lia | omega)) F.keep (Nat.le_refl _) (by decide)) F (by (first | lia | omega)) (by (first | lia | omega)) fun h3 tk9 t11 t10 F => ?_
    walk_at "gs"
    rw [show seg ds 0 ds.length = ds by unfold seg; simp]
    exact fin _ _ _ _ (by (first | lia | omega)) F
end
section
variable {w : World} {loose : List Str} {mean : ExcName → Option Value} {mg mb : Str → Option Value} {h : Heap} {tk : Nat}
theorem log2_lt {Y k : Nat} (h : Y < 2 ^ k) (hk : 0 < k) : Y.log2 < k := by
  by_cases h0 : Y = 0
  · subst h0; simpa using hk
  · exact (Nat.log2_lt h0).mpr h
theorem t_div2n1n (G : Gd w loose mean mg mb h) (X Y n : Nat) (t u v : Tok) (hb : Builtin.Int.intBits (X : Int) ≤ n + 4000) (hY : Y ≠ 0) {M : Nat} (hM : M ≤ 5000) (hYM : Y < 2 ^ M) :
    Fn w (.ref 101) [.int X t, .int Y u, .int n v] 2 16 [] h tk (fun r h' _ => ∃ a t1 t2 k, r = .ref a ∧ New h h' a (tupO [.int (X / Y : Nat) t1, .int (X % Y : Nat) t2] k)) := by
  intro dp un fr gd s₀ Q hd hu H
  refine enterP (by assumption) (by rfl) (by rfl) (by (first | lia | omega)) (by rfl) (by rfl) ?_ (by rfl) (by rfl) (by rfl) (by decide)
  intro fr' L h₁ tk₁ t₁ F
  walk_at "gs"
  refine MethodCall_ ?_
  walk_at "gs"
  with_reducible refine getMethod_int_bit_length ?_
  refine cw0 ?_
  refine r_bl fun t2 tk2 t3 => ?_
  walk_at "gs"
  refine gl F G (gn_DIV_LIMIT G) ?_
  walk_at "gs"
  rw [if_pos (by simp; (first | lia | omega))]
  walk_at "gs"
  refine callB F G (bn_divmod G) bv_divmod ?_
  walk_at "gs"
  refine r_divmod F (by (first | lia | omega)) (by
    have : (Y : Int).natAbs = Y := rfl
    rw [this]
    have hM0 : 0 < M := by
      rcases Nat.eq_zero_or_pos M with rfl | h
      · rw [Nat.pow_zero] at hYM; (first | lia | omega)
      · exact h
    have := log2_lt hYM hM0
    (first | lia | omega)) fun r t4 t5 h2 tk3 t6 F => ?_
  rw [fdiv_nat, fmod_nat] at F
  have c := F.led _ (.head _)
  walk_at "gK"
  exact H _ _ _ (by (first | lia | omega)) (fun b o _ => F.keep b o) ⟨r, t4, t5, 0, rfl, c.2.2, c.1⟩
theorem t_divpos (G : Gd w loose mean mg mb (hideAll h [110, 117])) (T1 : TbOk h 110 p115 "_int2digits.<locals>.inner") (T2 : TbOk h 117 p122 "_digits2int.<locals>.inner") (X Y : Nat) (t u : Tok) (hY : 0 < Y) {M : Nat} (hM : M ≤ 2000) (hYM : Y < 2 ^ M)
    {MX : Nat} (hMX : MX ≤ 1500000) (hX : X < 2 ^ MX) :
    Fn w (.ref 129) [.int X t, .int Y u] 60 400 [110, 117] h tk (fun r h' _ => TbOk h' 110 p115 "_int2digits.<locals>.inner" ∧ TbOk h' 117 p122 "_digits2int.<locals>.inner" ∧
      ∃ a t1 t2 k, r = .ref a ∧ New h h' a (tupO [.int (X / Y : Nat) t1, .int (X % Y : Nat) t2] k)) := by
  intro dp un fr gd s₀ Q hd hu H
  obtain ⟨ps1, ps2, e1, e2, R1, R2⟩ := tb_hide T1 T2
  refine enterN (N := [(110, tabObj ps1), (117, tabObj ps2)]) G hide_kp (fun q hq => ?_) (by show ([110, 117] : List Nat).Nodup; decide) (by rfl) (by rfl) (by (first | lia | omega)) (by rfl) (by rfl) ?_ (by rfl) (by rfl) (by rfl) (by decide)
  · rcases List.mem_cons.mp hq with rfl | hq
    · exact ⟨e1, hideAll_none _ (.head _)⟩
    · rw [List.mem_singleton.mp hq]; exact ⟨e2, hideAll_none _ (.tail _ (.head _))⟩
  intro fr' L h₁ tk₁ t₁ F
  walk_at "gs"
  refine MethodCall_ ?_
  walk_at "gs"
  with_reducible refine getMethod_int_bit_length ?_
  refine cw0 ?_
  refine r_bl fun t2 tk2 t3 => ?_
  have hn1 : 0 < Builtin.Int.intBits (Y : Int) := bits_pos (by (first | lia | omega))
  have hn2 : Builtin.Int.intBits (Y : Int) ≤ 2000 := Nat.le_trans (bits_le hYM) hM
  have hYn : Y < 2 ^ Builtin.Int.intBits (Y : Int) := by simpa using intBits_le_iff.mp (Nat.le_refl (Builtin.Int.intBits (Y : Int)))
  generalize Builtin.Int.intBits (Y : Int) = n at *
  walk_at "gs"
  refine callN (by assumption) G (gn_int2digits G) ki_int2digits fun Qc Kc => ?_
  walk_at "gs"
  replace F := (‹Fm _ _ _ _ _› : Fm _ L _ _ _)
  refine CN.mk F.keep ?_
  refine t_int2digits (G.keeps (kp_but F.keep (fun a ha => by rw [List.mem_singleton.mp ha]; exact (F.led (110, tabObj ps1) (.head _)).2.2))) (R1.ok F.keep (F.of (q := (110, tabObj ps1)) (.head _))) X n _ _ hn1 (by (first | lia | omega)) (by (first | lia | omega)) hX (dp + 1) (un + 3) fr' gd _ _ (by (first | lia | omega)) (by (first | lia | omega)) ?_
  rintro r h2 tk3 t4 kx ⟨⟨ps1', e1', R1'⟩, D, oD, vs, rfl, nD, hlD, hlen, hdig⟩
  refine Le.go Kc ?_
  try clear Kc Qc
  try dsimp only
  have nb := new_base F nD
  replace F := F.updX kx e1'
  have hW : ∀ p ∈ ([(110, tabObj ps1'), (117, tabObj ps2)] : Ld), NoRec p.2 := fun p hp => by
    rcases List.mem_cons.mp hp with rfl | hp
    · exact TbR.norec R1'
    · rw [List.mem_singleton.mp hp]; exact R2.norec
  replace R1' := tb_base F hW R1'
  have k1 := F.rkp _ (List.Sublist.refl _)
  replace R2 := R2.keeps k1
  replace G := G.keeps k1
  replace F := F.rebase _ (List.Sublist.refl _)
  replace nb : (hideAll h2 (L :: ([(110, tabObj ps1'), (117, tabObj ps2)] : Ld).map (·.1))).get? D = some oD := nb
  generalize hideAll h2 (L :: ([(110, tabObj ps1'), (117, tabObj ps2)] : Ld).map (·.1)) = g at *
  walk_at "gs"
  replace F := (‹Fm _ _ _ _ _› : Fm _ L _ _ _)
  refine mkL F (by show 0 ≤ sizeLine; decide) fun qa h3 _ _ F => ?_
  walk_at "gs"
  replace F := (‹Fm _ _ _ _ _› : Fm _ L _ _ _)
  refine wpAny_For ?_ (by intro _; rfl)
  refine callT F G (bn_reversed G) bv_reversed ?_
  walk_at "gs"
  refine r_reversed (F.keep _ _ nb) hlD fun I h4 oI kp4 nw4 rv => ?_
  replace F := F.its kp4 nw4
  refine wpAny_pyIter_revIter (s := St s₀ h4 _) (rv.at F) ?_
  obtain ⟨hXK, hnK⟩ := dig_count (X := X) hn1
  rw [← hlen] at hXK hnK
  have hbX := bits_le hX
  generalize hK : vs.length = K at *
  refine forD (src := [(D, oD)]) (fun j l N _ => ∀ G : Prop, (∀ (qs : List Nat) (qv : List Value) (m : Nat) (tr : Tok), lk l "r" = some (.int (X / 2 ^ (n * (K - j)) % Y : Nat) tr) → lk l "q_digits" = some (.ref qa) → ∀ tn, lk l "n" = some (.int n tn) → lk l "b" = some (.int Y u) → N = [(qa, lisO qv m), (110, tabObj ps1'), (117, tabObj ps2)] → IntsAre qv (qs.map fun d : Nat => (d : Int)) → qs.length = j → (∀ d ∈ qs, d < 2 ^ n) → dval n qs.reverse = X / 2 ^ (n * (K - j)) / Y → G) → G)
      (hK ▸ Dr.rev hlD rfl) F rv ?_ ?_ ?_ ?_
  · have e0 : X / 2 ^ (n * (K - 0)) = 0 := Nat.div_eq_of_lt (by simpa using hXK)
    simp only [e0, Nat.zero_mod, Nat.zero_div]
    exact fun _ kZ => kZ [] [] 0 _ rfl rfl _ rfl rfl rfl .nil rfl (fun _ h => nomatch h) rfl
  · rintro _ _ _ _ _ q hq
    rw [List.mem_singleton.mp hq]; exact .inl nb
  · rintro j b l N Is h5 tkj tk5 _ _ hj hbI ⟨oI', rfl, _, _⟩ t5 t6 hJJ F
    refine drV hbI F fun v hv F => ?_
    refine hJJ _ fun qs qv m tr l1 l2 tn l3 l4 hN hqv hql hqd hval => ?_
    replace F := F.eqA hN
    obtain ⟨td, hvd⟩ := hdig (K - 1 - j) (by (first | lia | omega))
    rw [hv] at hvd
    obtain rfl := Option.some.inj hvd
    obtain ⟨ds1, ds2⟩ := div_step (X := X) (n := n) hY hj
    have ds3 := div_dig (X := X) (n := n) (K := K) (j := j) hY
    have hr : X / 2 ^ (n * (K - j)) % Y < Y := Nat.mod_lt _ hY
    have hdd : X / 2 ^ (n * (K - 1 - j)) % 2 ^ n < 2 ^ n := Nat.mod_lt _ (Nat.two_pow_pos n)
    generalize X / 2 ^ (n * (K - j)) % Y = rr at *
    generalize X / 2 ^ (n * (K - 1 - j)) % 2 ^ n = dd at *
    walk_at "g"
    refine asgU rfl ?_
    refine callN F G (gn_div2n1n G) ki_div2n1n fun Qc Kc => ?_
    walk_at "gs"
    refine r_shl (Int.natCast_nonneg _) ?_ fun t13 tk13 t14 => ?_
    · have := bits_le (Nat.lt_trans hr hYn)
      (first | lia | omega)
    rw [shl_nat]
    walk_at "gs"
    rw [← Int.natCast_add]
    refine CN.mk F.keep ?_
    have hb2 : Builtin.Int.intBits ((rr * 2 ^ n + dd : Nat) : Int) ≤ n + n := bits_le (by
      have h3 : (rr + 1) * 2 ^ n ≤ Y * 2 ^ n := Nat.mul_le_mul_right _ hr
      have h4 : Y * 2 ^ n ≤ 2 ^ n * 2 ^ n := Nat.mul_le_mul_right _ (Nat.le_of_lt hYn)
      rw [Nat.add_mul, Nat.one_mul] at h3
      rw [Nat.pow_add]; (first | lia | omega))
    refine t_div2n1n (G.keeps F.keep) (rr * 2 ^ n + dd) Y n _ _ _ (by (first | lia | omega)) (by (first | lia | omega)) (by (first | lia | omega)) hYM (dp + 1) (un + 3) fr' gd _ _ (by (first | lia | omega)) (by (first | lia | omega)) ?_
    rintro r h6 tk6 t7 kx ⟨a, t1, t2, k, rfl, nw⟩
    refine Le.go Kc ?_
    try clear Kc Qc
    try dsimp only
    replace F := F.kp (kpx kx)
    refine ⟨g, h6, tk6, _, _, a, _, _, k, rfl, rfl, F, nw.2, fun h7 tk7 t8 F => ?_⟩
    walk_at "gs"
    refine wpAny_Expr_any ?_
    refine MethodCall_ ?_
    replace F : Fm _ L _ _ _ := F
    walk_at "gs"
    replace F := F.pull 1 (q := (qa, lisO qv m))
    simp only [List.cons_append, List.nil_append, List.eraseIdx] at F
    refine mth_append (F.of (q := (qa, lisO qv m)) (.head _)) ?_
    refine cw1 ?_
    walk_at "gs"
    refine appL F (by
      rw [hqv.length, List.length_map, hql]
      have : K ≤ n * K := Nat.le_mul_of_pos_left _ hn1
      exact Nat.le_trans (show j ≤ 2 ^ 24 by (first | lia | omega)) (by decide)) fun h8 n8 F => ?_
    replace F := F.pull 1 (q := (I, oI'))
    simp only [List.eraseIdx] at F
    walk_at "gs"
    refine TnD.next (Is := [(I, oI')]) F (fun _ kZ => kZ (qs ++ [(rr * 2 ^ n + dd) / Y]) _ n8 t2 ?_ l2 tn l3 l4 rfl ?_ (by rw [List.length_append, hql]; rfl) ?_ ?_)
    · rw [← ds1]; rfl
    · rw [List.map_append]; exact intsAre_snoc hqv
    · intro d hd
      rcases List.mem_append.mp hd with hd | hd
      · exact hqd d hd
      · rw [List.mem_singleton.mp hd]; exact ds3
    · rw [List.reverse_append, List.reverse_singleton, List.singleton_append, dval, hval, ds2]
  · rintro l N h5 tkj tk5 t5 t6 hJJ F
    refine hJJ _ fun qs qv m tr l1 l2 tn l3 l4 hN hqv hql hqd hval => ?_
    replace F := F.eqN hN
    rw [Nat.sub_self, Nat.mul_zero, Nat.pow_zero, Nat.div_one] at l1 hval
    try dsimp only
    walk_at "gs"
    have hKn : K ≤ n * K := Nat.le_mul_of_pos_left _ hn1
    refine wpAny_Expr_any ?_
    refine MethodCall_ ?_
    walk_at "gs"
    refine mth_reverse (F.of (q := (qa, lisO qv m)) (.head _)) ?_
    refine r_reverse F (by
      rw [hqv.length, List.length_map, hql]
      exact Nat.le_trans (show K ≤ 2 ^ 24 by (first | lia | omega)) (by decide)) fun h6 n6 F => ?_
    walk_at "gs"
    refine callN (by assumption) G (gn_digits2int G) ki_digits2int fun Qc Kc => ?_
    walk_at "gs"
    replace F := (‹Fm _ _ _ _ _› : Fm _ L _ _ _)
    refine CN.mk F.keep ?_
    have hnd := F.nd
    simp only [List.map_cons, List.map_nil, List.nodup_cons, List.mem_cons, List.not_mem_nil, or_false, not_or] at hnd
    refine t_digits2int (ds := qs.reverse) (G.keeps (kp_but F.keep (fun a ha => by rw [List.mem_singleton.mp ha]; exact (F.led (117, tabObj ps2) (by walk_at "mm")).2.2))) (R2.ok F.keep (F.of (q := (117, tabObj ps2)) (by walk_at "mm"))) (F.of (q := (qa, lisO qv.reverse n6)) (.head _)) (IsLst.of _ _) hnd.1.2
      (by rw [List.map_reverse]; exact intsAre_rev hqv) n tn hn1 (by (first | lia | omega)) (fun d hd => hqd d (List.mem_reverse.mp hd)) (by rw [List.length_reverse, hql]; (first | lia | omega)) (dp + 1) (un + 3) fr' gd _ _ (by (first | lia | omega)) (by (first | lia | omega)) ?_
    rintro r h7 tk7 t7 kx ⟨⟨ps2', e2', R2'⟩, t8, rfl⟩
    refine Le.go Kc ?_
    try clear Kc Qc
    try dsimp only
    replace F := F.pull 2 (q := (117, tabObj ps2))
    simp only [List.eraseIdx] at F
    replace F := (F.updX kx e2').drop 1
    simp only [List.eraseIdx] at F
    have hW : ∀ p ∈ ([(117, tabObj ps2'), (110, tabObj ps1')] : Ld), NoRec p.2 := fun p hp => by
      rcases List.mem_cons.mp hp with rfl | hp
      · exact TbR.norec R2'
      · rw [List.mem_singleton.mp hp]; exact R1'.norec
    replace R2' := tb_base F hW R2'
    have k2 := F.rkp _ (List.Sublist.refl _)
    replace R1' := R1'.keeps k2
    replace F := F.rebase _ (List.Sublist.refl _)
    replace k2 : Kp _ _ := fun b o e => k2 b o (k1 b o e)
    generalize hideAll h7 (L :: ([(117, tabObj ps2'), (110, tabObj ps1')] : Ld).map (·.1)) = g2 at *
    walk_at "gs"
    replace F := (‹Fm _ _ _ _ _› : Fm _ L _ _ _)
    refine mkT F (by show 2 ≤ sizeLine; decide) fun ta h9 _ _ F => ?_
    walk_at "gs"
    rw [hval] at F
    have c := F.led _ (.head _)
    have nd := F.nd
    simp only [List.map_cons, List.map_nil, List.nodup_cons, List.mem_cons, List.not_mem_nil, or_false, not_or] at nd
    refine H _ _ _ (by (first | lia | omega)) (hide_kpx fun b o e => F.keep _ _ (k2 _ _ e)) ⟨R1'.ok F.keep (F.of (q := (110, tabObj ps1')) (by walk_at "mm")), R2'.ok F.keep (F.of (q := (117, tabObj ps2')) (by walk_at "mm")), ta, _, _, 0, rfl, hide_none (kg_none k2 c.2.2) ?_, c.1⟩
    simp only [List.mem_cons, List.not_mem_nil, or_false, not_or]
    exact ⟨nd.1.2, nd.1.1⟩
end
section
variable {w : World} {loose : List Str} {mean : ExcName → Option Value} {mg mb : Str → Option Value} {h : Heap} {tk : Nat}
noncomputable abbrev q1 : Str := "_int2digits.<locals>.inner"
noncomputable abbrev q2 : Str := "_digits2int.<locals>.inner"
noncomputable def DvP (h h' : Heap) (r : Value) (q m : Int) : Prop := TbOk h' 110 p115 q1 ∧ TbOk h' 117 p122 q2 ∧ ∃ a t1 t2 k, r = .ref a ∧ New h h' a (tupO [.int q t1, .int m t2] k)
theorem kp_all {h₁ : Heap} {L : Addr} {l : List (Str × Value)} {ps1 ps2 : Array Value} (F : Fm (hideAll h [110, 117]) L l [(110, tabObj ps1), (117, tabObj ps2)] h₁) (e1 : h.get? 110 = some (tabObj ps1)) (e2 : h.get? 117 = some (tabObj ps2)) : Kp h h₁ := fun b o e => by
  by_cases h1 : b = 110
  · subst h1; rw [e1] at e; cases e; exact F.of (q := (110, tabObj ps1)) (.head _)
  · by_cases h2 : b = 117
    · subst h2; rw [e2] at e; cases e; exact F.of (q := (117, tabObj ps2)) (.tail _ (.head _))
    · exact F.keep _ _ (hideAll_get _ e (by simp; exact ⟨h1, h2⟩))
theorem t_dm1 (G : Gd w loose mean mg mb (hideAll h [110, 117])) (T1 : TbOk h 110 p115 q1) (T2 : TbOk h 117 p122 q2) (X Y : Nat) (t u : Tok) (hY : 0 < Y) {M : Nat} (hM : M ≤ 2000) (hYM : Y < 2 ^ M) {MX : Nat} (hMX : MX ≤ 1500000) (hX : X < 2 ^ MX) :
    Fn w (.ref 136) [.int X t, .int Y u] 70 420 [110, 117] h tk (fun r h' _ => DvP h h' r (X / Y : Nat) (X % Y : Nat)) := by
  intro dp un fr gd s₀ Q hd hu H
  obtain ⟨ps1, ps2, e1, e2, R1, R2⟩ := tb_hide T1 T2
  refine enterN (N := [(110, tabObj ps1), (117, tabObj ps2)]) G hide_kp (fun q hq => ?_) (by show ([110, 117] : List Nat).Nodup; decide) (by rfl) (by rfl) (by (first | lia | omega)) (by rfl) (by rfl) ?_ (by rfl) (by rfl) (by rfl) (by decide)
  · rcases List.mem_cons.mp hq with rfl | hq
    · exact ⟨e1, hideAll_none _ (.head _)⟩
    · rw [List.mem_singleton.mp hq]; exact ⟨e2, hideAll_none _ (.tail _ (.head _))⟩
  intro fr' L h₁ tk₁ t₁ F
  have ka := kp_all F e1 e2
  walk_at "gs"
  rw [if_neg (by simp; (first | lia | omega))]
  walk_at "gs"
  rw [if_neg (by simp)]
  walk_at "gs"
  rw [if_neg (by simp)]
  walk_at "gs"
  refine callN F G (gn_divmod_pos G) ki_divmod_pos fun Qc Kc => ?_
  walk_at "gs"
  refine CN.mk F.keep ?_
  refine t_divpos (G.keeps (kp_but F.keep (fun a ha => hideAll_none _ ha))) (T1 := R1.ok F.keep (F.of (q := (110, tabObj ps1)) (.head _))) (R2.ok F.keep (F.of (q := (117, tabObj ps2)) (by walk_at "mm"))) X Y _ _ hY hM hYM hMX hX (dp + 1) (un + 3) fr' gd _ _ (by (first | lia | omega)) (by (first | lia | omega)) ?_
  rintro r h2 tk2 t2 kx ⟨T1', T2', a, t3, t4, k, rfl, nw⟩
  refine Le.go Kc ?_
  try clear Kc Qc
  try dsimp only
  try walk_at "gK"
  exact H _ _ _ (by (first | lia | omega)) (fun b o hb e => kx b o hb (ka _ _ e)) ⟨T1', T2', a, t3, t4, k, rfl, kg_none ka nw.1, nw.2⟩
theorem t_dm2 (G : Gd w loose mean mg mb (hideAll h [110, 117])) (T1 : TbOk h 110 p115 q1) (T2 : TbOk h 117 p122 q2) (X Y : Nat) (t u : Tok) (hY : 0 < Y) {M : Nat} (hM : M ≤ 2000) (hYM : Y < 2 ^ M) {MX : Nat} (hMX : MX ≤ 1500000) (hX : X < 2 ^ MX) :
    Fn w (.ref 136) [.int (-(X : Int) - 1) t, .int Y u] 72 440 [110, 117] h tk (fun r h' _ => DvP h h' r (-((X / Y : Nat) : Int) - 1) (Y + (-((X % Y : Nat) : Int) - 1))) := by
  intro dp un fr gd s₀ Q hd hu H
  obtain ⟨ps1, ps2, e1, e2, R1, R2⟩ := tb_hide T1 T2
  refine enterN (N := [(110, tabObj ps1), (117, tabObj ps2)]) G hide_kp (fun q hq => ?_) (by show ([110, 117] : List Nat).Nodup; decide) (by rfl) (by rfl) (by (first | lia | omega)) (by rfl) (by rfl) ?_ (by rfl) (by rfl) (by rfl) (by decide)
  · rcases List.mem_cons.mp hq with rfl | hq
    · exact ⟨e1, hideAll_none _ (.head _)⟩
    · rw [List.mem_singleton.mp hq]; exact ⟨e2, hideAll_none _ (.tail _ (.head _))⟩
  intro fr' L h₁ tk₁ t₁ F
  have ka := kp_all F e1 e2
  walk_at "gs"
  rw [if_neg (by simp; (first | lia | omega))]
  walk_at "gs"
  rw [if_neg (by simp)]
  walk_at "gs"
  rw [if_pos (by simp; (first | lia | omega))]
  walk_at "g"
  refine asgU rfl ?_
  refine callN F G (gn_int_divmod G) ki_int_divmod fun Qc Kc => ?_
  walk_at "gs"
  refine r_inv fun t5 tk5 t6 => ?_
  rw [show -(-(X : Int) - 1) - 1 = (X : Int) by (first | lia | omega)]
  walk_at "gs"
  refine CN.mk F.keep ?_
  refine t_dm1 (G.keeps (kp_but F.keep (fun a ha => hideAll_none _ ha))) (R1.ok F.keep (F.of (q := (110, tabObj ps1)) (.head _))) (R2.ok F.keep (F.of (q := (117, tabObj ps2)) (by walk_at "mm"))) X Y _ _ hY hM hYM hMX hX (dp + 1) (un + 3) fr' gd _ _ (by (first | lia | omega)) (by (first | lia | omega)) ?_
  rintro r h2 tk2 t2 kx ⟨⟨ps1', e1', R1'⟩, ⟨ps2', e2', R2'⟩, pa, t3, t4, k, rfl, nw⟩
  refine Le.go Kc ?_
  try clear Kc Qc
  try dsimp only
  have nb := new_base F nw
  replace F := F.updX2 kx e1' e2'
  have hW : ∀ p ∈ ([(110, tabObj ps1'), (117, tabObj ps2')] : Ld), NoRec p.2 := fun p hp => by
    rcases List.mem_cons.mp hp with rfl | hp
    · exact TbR.norec R1'
    · rw [List.mem_singleton.mp hp]; exact TbR.norec R2'
  replace R1' := tb_base F hW R1'
  replace R2' := tb_base F hW R2'
  have k1 := F.rkp _ (List.Sublist.refl _)
  replace F := F.rebase _ (List.Sublist.refl _)
  replace nb : (hideAll h2 (L :: ([(110, tabObj ps1'), (117, tabObj ps2')] : Ld).map (·.1))).get? pa = _ := nb
  generalize hideAll h2 (L :: ([(110, tabObj ps1'), (117, tabObj ps2')] : Ld).map (·.1)) = g at *
  refine ⟨g, h2, tk2, _, _, pa, _, _, k, rfl, rfl, F, nw.2, fun h7 tk7 t8 F => ?_⟩
  replace F : Fm _ L _ _ _ := F
  walk_at "gs"
  refine r_inv fun t5 tk5 t6 => ?_
  walk_at "gs"
  refine r_inv fun t5 tk5 t6 => ?_
  walk_at "gs"
  refine mkT F (by show 2 ≤ sizeLine; decide) fun ta h9 _ _ F => ?_
  walk_at "gs"
  have c := F.led _ (.head _)
  have nd := F.nd
  simp only [List.map_cons, List.map_nil, List.nodup_cons, List.mem_cons, List.not_mem_nil, or_false, not_or] at nd
  try walk_at "gK"
  exact H _ _ _ (by (first | lia | omega)) (hide_kpx fun b o e => F.keep _ _ (k1 _ _ e)) ⟨R1'.ok F.keep (F.of (q := (110, tabObj ps1')) (by walk_at "mm")), R2'.ok F.keep (F.of (q := (117, tabObj ps2')) (by walk_at "mm")), ta, _, _, 0, rfl, hide_none (kg_none k1 c.2.2) (by
    simp only [List.mem_cons, List.not_mem_nil, or_false, not_or]
    exact nd.1), c.1⟩
theorem fdiv_neg1 (X : Nat) {Y : Nat} (hY : 0 < Y) : (-(X : Int) - 1).fdiv Y = -((X / Y : Nat) : Int) - 1 ∧ (-(X : Int) - 1).fmod Y = Y + (-((X % Y : Nat) : Int) - 1) := by
  have h1 := Nat.div_add_mod X Y
  have h2 := Nat.mod_lt X hY
  rw [Int.fdiv_eq_ediv_of_nonneg _ (by (first | lia | omega)), Int.fmod_eq_emod_of_nonneg _ (by (first | lia | omega))]
  have e : (-(X : Int) - 1) = (Y : Int) * (-((X / Y : Nat) : Int) - 1) + ((Y : Int) + (-((X % Y : Nat) : Int) - 1)) := by
    rw [Int.mul_sub, Int.mul_neg, Int.mul_one]
    have : (X : Int) = (Y : Int) * ((X / Y : Nat) : Int) + ((X % Y : Nat) : Int) := by rw [← Int.natCast_mul, ← Int.natCast_add, h1]
    (first | lia | omega)
  have key := Int.ediv_emod_unique (a := -(X : Int) - 1) (b := (Y : Int)) (q := -((X / Y : Nat) : Int) - 1) (r := (Y : Int) + (-((X % Y : Nat) : Int) - 1)) (by (first | lia | omega))
  exact key.mpr ⟨by rw [Int.add_comm]; exact e.symm, by (first | lia | omega), by (first | lia | omega)⟩
theorem t_dmp (G : Gd w loose mean mg mb (hideAll h [110, 117])) (T1 : TbOk h 110 p115 q1) (T2 : TbOk h 117 p122 q2) (a : Int) (Y : Nat) (t u : Tok) (hY : 0 < Y) {M : Nat} (hM : M ≤ 2000) (hYM : Y < 2 ^ M) {MX : Nat} (hMX : MX ≤ 1500000) (hX : a.natAbs < 2 ^ MX) :
    Fn w (.ref 136) [.int a t, .int Y u] 72 440 [110, 117] h tk (fun r h' _ => DvP h h' r (a.fdiv Y) (a.fmod Y)) := by
  intro dp un fr gd s₀ Q hd hu H
  rcases Int.lt_or_le a 0 with h0 | h0
  · obtain ⟨X, rfl⟩ : ∃ X : Nat, a = -(X : Int) - 1 := ⟨(-a - 1).toNat, by (first | lia | omega)⟩
    rw [(fdiv_neg1 X hY).1, (fdiv_neg1 X hY).2] at H
    exact t_dm2 G T1 T2 X Y t u hY hM hYM hMX (by
      have : (-(X : Int) - 1).natAbs = X + 1 := by (first | lia | omega)
      (first | lia | omega)) dp un fr gd s₀ Q hd hu H
  · obtain ⟨X, rfl⟩ : ∃ X : Nat, a = (X : Int) := ⟨a.toNat, by (first | lia | omega)⟩
    rw [fdiv_nat, fmod_nat] at H
    exact t_dm1 G T1 T2 X Y t u hY hM hYM hMX (by simpa using hX) dp un fr gd s₀ Q (by (first | lia | omega)) (by (first | lia | omega)) H
theorem t_dmn (G : Gd w loose mean mg mb (hideAll h [110, 117])) (T1 : TbOk h 110 p115 q1) (T2 : TbOk h 117 p122 q2) (a : Int) (Y : Nat) (t u : Tok) (hY : 0 < Y) {M : Nat} (hM : M ≤ 2000) (hYM : Y < 2 ^ M) {MX : Nat} (hMX : MX ≤ 1500000) (hX : a.natAbs < 2 ^ MX) :
    Fn w (.ref 136) [.int a t, .int (-(Y : Int)) u] 74 460 [110, 117] h tk (fun r h' _ => DvP h h' r (a.fdiv (-(Y : Int))) (a.fmod (-(Y : Int)))) := by
  intro dp un fr gd s₀ Q hd hu H
  obtain ⟨ps1, ps2, e1, e2, R1, R2⟩ := tb_hide T1 T2
  refine enterN (N := [(110, tabObj ps1), (117, tabObj ps2)]) G hide_kp (fun q hq => ?_) (by show ([110, 117] : List Nat).Nodup; decide) (by rfl) (by rfl) (by (first | lia | omega)) (by rfl) (by rfl) ?_ (by rfl) (by rfl) (by rfl) (by decide)
  · rcases List.mem_cons.mp hq with rfl | hq
    · exact ⟨e1, hideAll_none _ (.head _)⟩
    · rw [List.mem_singleton.mp hq]; exact ⟨e2, hideAll_none _ (.tail _ (.head _))⟩
  intro fr' L h₁ tk₁ t₁ F
  have ka := kp_all F e1 e2
  walk_at "gs"
  rw [if_neg (by simp; (first | lia | omega))]
  walk_at "gs"
  rw [if_pos (by simp; (first | lia | omega))]
  walk_at "g"
  refine asgU rfl ?_
  refine callN F G (gn_int_divmod G) ki_int_divmod fun Qc Kc => ?_
  walk_at "gs"
  rw [Int.neg_neg]
  refine CN.mk F.keep ?_
  refine t_dmp (G.keeps (kp_but F.keep (fun a ha => hideAll_none _ ha))) (R1.ok F.keep (F.of (q := (110, tabObj ps1)) (.head _))) (R2.ok F.keep (F.of (q := (117, tabObj ps2)) (by walk_at "mm"))) (-a) Y _ _ hY hM hYM hMX (by rw [Int.natAbs_neg]; exact hX) (dp + 1) (un + 3) fr' gd _ _ (by (first | lia | omega)) (by (first | lia | omega)) ?_
  rintro r h2 tk2 t2 kx ⟨⟨ps1', e1', R1'⟩, ⟨ps2', e2', R2'⟩, pa, t3, t4, k, rfl, nw⟩
  refine Le.go Kc ?_
  try clear Kc Qc
  try dsimp only
  have nb := new_base F nw
  replace F := F.updX2 kx e1' e2'
  have hW : ∀ p ∈ ([(110, tabObj ps1'), (117, tabObj ps2')] : Ld), NoRec p.2 := fun p hp => by
    rcases List.mem_cons.mp hp with rfl | hp
    · exact TbR.norec R1'
    · rw [List.mem_singleton.mp hp]; exact TbR.norec R2'
  replace R1' := tb_base F hW R1'
  replace R2' := tb_base F hW R2'
  have k1 := F.rkp _ (List.Sublist.refl _)
  replace F := F.rebase _ (List.Sublist.refl _)
  replace nb : (hideAll h2 (L :: ([(110, tabObj ps1'), (117, tabObj ps2')] : Ld).map (·.1))).get? pa = _ := nb
  generalize hideAll h2 (L :: ([(110, tabObj ps1'), (117, tabObj ps2')] : Ld).map (·.1)) = g at *
  refine ⟨g, h2, tk2, _, _, pa, _, _, k, rfl, rfl, F, nw.2, fun h7 tk7 t8 F => ?_⟩
  replace F : Fm _ L _ _ _ := F
  walk_at "gs"
  refine mkT F (by show 2 ≤ sizeLine; decide) fun ta h9 _ _ F => ?_
  walk_at "gs"
  have x1 : (-a).fdiv (Y : Int) = a.fdiv (-(Y : Int)) := by
    have := Int.neg_fdiv_neg (-a) (Y : Int)
    rw [Int.neg_neg] at this
    exact this.symm
  have x2 : -((-a).fmod (Y : Int)) = a.fmod (-(Y : Int)) := by
    rw [Int.fmod_def, Int.fmod_def, x1, Int.neg_mul]
    (first | lia | omega)
  rw [x1, x2] at F
  have c := F.led _ (.head _)
  have nd := F.nd
  simp only [List.map_cons, List.map_nil, List.nodup_cons, List.mem_cons, List.not_mem_nil, or_false, not_or] at nd
  try walk_at "gK"
  exact H _ _ _ (by (first | lia | omega)) (hide_kpx fun b o e => F.keep _ _ (k1 _ _ e)) ⟨R1'.ok F.keep (F.of (q := (110, tabObj ps1')) (by walk_at "mm")), R2'.ok F.keep (F.of (q := (117, tabObj ps2')) (by walk_at "mm")), ta, _, _, 0, rfl, hide_none (kg_none k1 c.2.2) (by
    simp only [List.mem_cons, List.not_mem_nil, or_false, not_or]
    exact nd.1), c.1⟩
end
section
variable {w : World} {loose : List Str} {mean : ExcName → Option Value} {mg mb : Str → Option Value} {h : Heap} {tk : Nat}
/-- a contract with keywords -/
noncomputable def FnK (w : World) (f : Value) (vs : List Value) (kw : List (Str × Value)) (d u : Nat) (W : List Addr) (h : Heap) (tk : Nat) (post : Value → Heap → Nat → Prop) : Prop :=
  ∀ (dp un : Nat) (fr : Option (List Env)) (gd : Option (List Code)) (s₀ : Shared) (Q : Value → Shared → Prop), dp + d < recursionLimit → un + u < cLine →
    (∀ r h' tk', tk ≤ tk' → KpX W h h' → post r h' tk' → Q r (St s₀ h' tk')) →
    wpAny (model MP w) (Ar dp un fr gd) (call f vs kw) Q No (St s₀ h tk)
theorem t_conv (G : Gd w loose mean mg mb h) (self : Value) (b : Bool) (x : Str) (t : Tok) (hx : okS (if b then nmCode else vlCode) x = true) (hl : x.cps.size < 1000) :
    FnK w (.ref 181) [self, .str x t] [("name", .bool b)] 2 16 [] h tk (fun r _ _ => r = .str x t) := by
  intro dp un fr gd s₀ Q hd hu H
  refine enterC (N := []) [("name", .bool b), ("value", .str x t), ("self", self)] G (fun _ _ e => e) (fun _ hq => nomatch hq) List.nodup_nil (by rfl) (by rfl) (by (first | lia | omega)) (BindsTo.of_eq (by rfl)) (by rfl) (by decide) (fun _ => bindL_of) ?_ (by rfl) (by rfl) (by rfl)
  intro fr' L h₁ tk₁ Cs t₁ hC F
  cases hC
  walk_at "gs"
  refine callT F G (bn_type G) bv_type ?_
  walk_at "gs"
  refine call_type_of (typeIs_str _ x t) (by decide) ?_
  walk_at "gs"
  refine bl F G (bn_str G) bv_str ?_
  refine wpAny_of_eq (a := .bool true) (by rfl) ?_
  walk_at "gs"
  refine iteT rfl ?_
  walk_at "gs"
  cases b with
  | true =>
    refine iteT rfl ?_
    refine gl F G (gn_name_re G) ?_
    walk_at "gs"
    replace F := (‹Fm _ _ _ _ _› : Fm _ L _ _ _)
    refine MethodCall_ ?_
    walk_at "gs"
    refine mth_search (F.keep _ _ (G.K 146 _ (by rfl))) (by rfl) (by rfl) ?_
    refine cw1 ?_
    walk_at "gs"
    refine search_nm (G.keeps F.keep) hx hl ?_
    refine truthy_none ?_
    rw [if_neg (by decide)]
    walk_at "gs"
    exact H _ _ _ (by (first | lia | omega)) (fun b o _ => F.keep b o) rfl
  | false =>
    rw [if_neg (by decide)]
    refine gl F G (gn_value_re G) ?_
    walk_at "gs"
    replace F := (‹Fm _ _ _ _ _› : Fm _ L _ _ _)
    refine MethodCall_ ?_
    walk_at "gs"
    refine mth_search (F.keep _ _ (G.K 151 _ (by rfl))) (by rfl) (by rfl) ?_
    refine cw1 ?_
    walk_at "gs"
    refine search_vl (G.keeps F.keep) hx hl ?_
    refine truthy_none ?_
    rw [if_neg (by decide)]
    walk_at "gs"
    exact H _ _ _ (by (first | lia | omega)) (fun b o _ => F.keep b o) rfl
theorem t_new (G : Gd w loose mean mg mb h) : Fn w (.ref 280) [] 6 60 [] h tk (fun r h' _ => ∃ x dx l n, r = .ref x ∧ New h h' x (instObj 280 dx) ∧ (∃ hs k, New h h' dx (hdD hs k (.ref l))) ∧ New h h' l (lisO [] n)) := by
  intro dp un fr gd s₀ Q hd hu H
  have X : (Mine.hd.heap_1 w.params).In h := G.K
  refine wpAny_call (make_core (h := h) (g := s₀.gens) (d := s₀.drawn) (t := tk + 1) (os := s₀.os) (makes_of X (by kernel_rfl)) (looks_findIn X (r := some (.ref 174)) (by kernel_rfl)) (fun self => bind_fn X self (by kernel_rfl)) (.inl rfl) ?_)
  show codeAny _ (Ar (dp + 1) _ fr gd) (.call (.ref 174) ⟨[.ref (h.objs.size + 1)], []⟩) _ (St s₀ ((h.push emptyDict).push (instObj 280 h.objs.size)) tk)
  have n1 : New h (h.push emptyDict) h.objs.size emptyDict := new_push _ _
  have hz : (h.push emptyDict).objs.size = h.objs.size + 1 := Heap.size_push ..
  have n2 := new_push (h.push emptyDict) (instObj 280 h.objs.size)
  rw [hz] at n2
  generalize h.objs.size + 1 = x at *
  generalize h.objs.size = dx at *
  have kp : Kp h ((h.push emptyDict).push (instObj 280 dx)) := fun b o e => kp_push _ _ _ _ (kp_push _ _ _ _ e)
  have e1 := kp_push _ (instObj 280 dx) _ _ n1.2
  have e0 := kg_none (kp_push h emptyDict) n2.1
  generalize (h.push emptyDict).push (instObj 280 dx) = h2 at *
  have hne : dx ≠ x := fun z => by
    subst z
    have a := n2.2
    rw [e1] at a; cases a
  refine enterCode (g := h) (N := [(dx, emptyDict), (x, instObj 280 dx)]) [("headers", .none), ("self", .ref x)] G kp (fun q hq => ?_) ?_ (by rfl) (by rfl) (by (first | lia | omega)) (binds_K (G.K.keeps kp) (by rfl) (by rfl) (by rfl) (by rfl) (by rfl)) (by rfl) (by decide) (fun _ => bindL_of) ?_ (by rfl) (by rfl) (by rfl)
  · rcases List.mem_cons.mp hq with rfl | hq
    · exact ⟨e1, n1.1⟩
    · rw [List.mem_singleton.mp hq]; exact ⟨n2.2, e0⟩
  · exact List.nodup_cons.mpr ⟨by simpa using hne, List.nodup_cons.mpr ⟨(fun h => nomatch h), List.nodup_nil⟩⟩
  intro fr' L h₁ tk₁ Cs t₁ hC F
  cases hC
  generalize un + (Code.builtin "type.__call__" { pos := [Value.ref 280] }).cUnits + 3 = un2 at *
  walk_at "gs"
  refine wpAny_of_eq (a := .bool false) (by rfl) ?_
  walk_at "gs"
  rw [if_neg (by decide)]
  walk_at "gs"
  refine mkL F (by show 0 ≤ sizeLine; decide) fun l h3 _ _ F => ?_
  walk_at "gs"
  replace F := (‹Fm _ _ _ _ _› : Fm _ L _ _ _)
  refine callT F G (bn_type G) bv_type ?_
  walk_at "gs"
  refine call_type_of (x := .ref l) (Tx := "list") ⟨_, F.of (q := (l, lisO [] 0)) (.head _), rfl⟩ (by decide) ?_
  walk_at "gs"
  refine bl F G (bn_list G) bv_list ?_
  refine wpAny_of_eq (a := .bool false) (by rfl) ?_
  walk_at "gs"
  rw [if_neg (by decide)]
  walk_at "gs"
  refine plainObj_wpAny_Assign_Attribute ?_
  walk_at "gs"
  replace F := (F.pull 2 (q := (x, instObj 280 dx)))
  simp only [List.cons_append, List.nil_append, List.eraseIdx] at F
  replace F := (F.pull 2 (q := (dx, emptyDict)))
  simp only [List.eraseIdx] at F
  refine r_setH G F fun hs k h4 tk4 t4 F => ?_
  walk_at "gs"
  refine iteT rfl ?_
  walk_at "gs"
  refine wpAny_For ?_ (by intro _; rfl)
  walk_at "gs"
  refine itrL (F.of (q := (l, lisO [] 0)) (by walk_at "mm")) (IsLst.of _ _) fun I h5 k5 n5 s5 => ?_
  replace F := F.its k5 n5
  refine forD (src := [(l, lisO [] 0)]) (fun _ _ N _ => N = [(dx, hdD hs k (.ref l)), (x, instObj 280 dx), (l, lisO [] 0)]) (Dr.pairs (IsLst.of [] 0) rfl [] (fun i v e => by simp at e)) F s5 rfl ?_ ?_ ?_
  · rintro _ _ _ _ rfl q hq
    rw [List.mem_singleton.mp hq]; exact .inr (by simp)
  · intro i b l N Is h tkj tk' _ _ hi
    exact absurd hi (Nat.not_lt_zero _)
  · rintro l6 N h6 tkj tk6 t6 t7 rfl F
    walk_at "gs"
    refine ⟨rfl, H _ _ _ (by (first | lia | omega)) (fun b o _ => F.keep b o) ⟨x, dx, l, 0, rfl, ?_, ⟨hs, k, ?_⟩, ?_⟩⟩
    · have c := F.led (x, instObj 280 dx) (by walk_at "mm")
      exact ⟨c.2.2, c.1⟩
    · have c := F.led (dx, hdD hs k (.ref l)) (by walk_at "mm")
      exact ⟨c.2.2, c.1⟩
    · have c := F.led (l, lisO [] 0) (by walk_at "mm")
      exact ⟨c.2.2, c.1⟩
end
section
variable {w : World} {loose : List Str} {mean : ExcName → Option Value} {mg mb : Str → Option Value} {h : Heap} {tk : Nat}
theorem kw1 {M : Model} {A : Around} {E : Value → Shared → Prop} {s : Shared} {Q : List Value → Shared → Prop} {env : Env} {nm : Str} {b : Bool} {k : Nat} {pos cp kp : Pos} (H : Q [.bool b] s) :
    wpAny M A (evalAll ((backToKw pos (keywordEach [{ arg := some nm, value := .Constant (.bool b) k cp, pos := kp }] env)).map (·.2))) Q E s := by
  show wpAny M A (evalAll [do let v ← eval (.Constant (.bool b) k cp) env; standAt pos; pure v]) Q E s
  exact wpAny_evalAll_cons (wpAny_bind (wpAny_Constant_bool (wpAny_bind (wpAny_standAt (wpAny_pure (wpAny_evalAll_nil H))))))
theorem ki_conv {P : Params} : keepIn (hd.heap_1 P) (.ref 181) = true := by kernel_rfl
theorem hd_sh (lx : Addr) (name : Str) (hn : (Str.ofString "_headers" == name) = false) (hs : Int) (k : Nat) : shadowIn (some (hdD hs k (.ref lx))) name = some false := by
  have e : (Value.str (Str.ofString "_headers") k).isStr name = false := by
    rw [← hn]; rfl
  show (Option.map (·.isSome) (match ([⟨hs, .str (Str.ofString "_headers") k, .ref lx⟩] : List DictEntry).find? (·.key.isStr name) with
      | some e => some (some e.val)
      | none => if ([⟨hs, .str (Str.ofString "_headers") k, .ref lx⟩] : List DictEntry).any (·.refKey) then none else some none)) = some false
  rw [List.find?_cons, e]
  rfl
theorem t_addh (x dx lx : Addr) {vs : List Value} {kk : Nat} (G : Gd w loose mean mg mb (hideAll h [lx])) (Hh : Hd (hideAll h [lx]) x dx lx) (el : h.get? lx = some (lisO vs kk)) (n v : Str) (t u : Tok) (hn : okS nmCode n = true) (hv : okS vlCode v = true) (hnl : n.cps.size < 1000) (hvl : v.cps.size < 1000) (hz : vs.length < 1000000) :
    Fn w (.ref 277) [.ref x, .str n t, .str v u] 10 100 [lx] h tk (fun _ h' _ => ∃ a k' j, h'.get? lx = some (lisO (vs ++ [.ref a]) k') ∧ New h h' a (tupO [.str n t, .str v u] j)) := by
  intro dp un fr gd s₀ Q hd hu H
  refine enterKw (N := [(lx, lisO vs kk)]) (binds := fun D => [("self", .ref x), ("_name", .str n t), ("_value", .str v u), ("_params", .ref D)]) G hide_kp (fun q hq => by rw [List.mem_singleton.mp hq]; exact ⟨el, hideAll_none _ (.head _)⟩) (List.nodup_cons.mpr ⟨(fun h => nomatch h), List.nodup_nil⟩) (by rfl) (by rfl) (by (first | lia | omega)) (by rfl) (fun D => by rfl) (fun D => by rfl) ?_ (by rfl) (by rfl) (by rfl) (by decide)
  intro fr' L D h₁ tk₁ t₁ hDs F
  walk_at "gs"
  refine mkL F (by show 0 ≤ sizeLine; decide) fun pl h3 _ _ F => ?_
  walk_at "gs"
  refine wpAny_of_eq (a := .bool true) (by rfl) ?_
  walk_at "gs"
  refine iteT rfl ?_
  walk_at "gs"
  replace F := (‹Fm _ _ _ _ _› : Fm _ L _ _ _)
  refine methodCall_KW ?_
  walk_at "gs"
  refine r_mthH G F.keep (Hh.keeps F.keep) (f := 181) (by kernel_rfl) (by kernel_rfl) (hd_sh lx _ (by decide)) ?_
  refine callWith_KW (h₀ := hideAll h [lx]) G.K ki_conv (by rfl) ?_
  walk_at "gs"
  refine kw1 ?_
  refine ⟨G.K.keeps F.keep, ?_⟩
  refine t_conv (G.keeps F.keep) (.ref x) false v u hv hvl (dp + 1) (un + 3) fr' gd _ _ (by (first | lia | omega)) (by (first | lia | omega)) ?_
  rintro r h4 tk4 t4 kx rfl
  replace F := F.kp (kpx kx)
  walk_at "gs"
  replace F := (‹Fm _ _ _ _ _› : Fm _ L _ _ _)
  refine wpAny_Expr_any ?_
  refine MethodCall_ ?_
  walk_at "gs"
  refine mth_append (F.of (q := (pl, lisO [] 0)) (by walk_at "mm")) ?_
  refine cw1 ?_
  walk_at "gs"
  refine appL F (by show 0 ≤ sizeLine; decide) fun h5 n5 F => ?_
  walk_at "gs"
  refine wpAny_For ?_ (by intro _; rfl)
  refine MethodCall_ ?_
  walk_at "gs"
  refine mth_items (F.of (q := (D, emptyDict)) (by walk_at "mm")) rfl rfl ?_
  refine cw0 ?_
  refine r_items (F.of (q := (D, emptyDict)) (by walk_at "mm")) hDs fun V h6 k6 hV => ?_
  replace F := F.kp k6
  refine wpAny_pyIter_items (s := St s₀ h6 _) hV (dAt (prog := MP) (w := w) (F.of (q := (D, emptyDict)) (by walk_at "mm"))) ?_
  replace F := F.push { cls := .type "dict_itemiterator", dict := none, data := .fields #[.none, .bool false, .ref D, .int 0 0, .int 0 0, .int 0 0, .none, .none], slots := #[] }
  refine for_items0 rfl F (F.of (q := (D, emptyDict)) (by walk_at "mm")) rfl fun h7 F => ?_
  walk_at "gs"
  refine wpAny_Expr_any ?_
  refine MethodCall_ ?_
  refine Attribute_name ?_
  walk_at "gs"
  refine r_getH G F.keep (Hh.keeps F.keep) fun tk8 t8 => ?_
  refine mth_append (F.of (q := (lx, lisO vs kk)) (by walk_at "mm")) ?_
  refine cw1 ?_
  walk_at "gs"
  refine methodCall_KW ?_
  walk_at "gs"
  refine r_mthH G F.keep (Hh.keeps F.keep) (f := 181) (by kernel_rfl) (by kernel_rfl) (hd_sh lx _ (by decide)) ?_
  refine callWith_KW (h₀ := hideAll h [lx]) G.K ki_conv (by rfl) ?_
  walk_at "gs"
  refine kw1 ?_
  refine ⟨G.K.keeps F.keep, ?_⟩
  refine t_conv (G.keeps F.keep) (.ref x) true n t hn hnl (dp + 1) (un + 3) fr' gd _ _ (by (first | lia | omega)) (by (first | lia | omega)) ?_
  rintro r h9 tk9 t9 kx rfl
  replace F := F.kp (kpx kx)
  walk_at "gs"
  refine MethodCall_ ?_
  walk_at "gs"
  refine getMethod_builtin (T := "str") (typeIs_str _ _ _) PySem.F.plainAttrs_str PySem.F.slot_str_join PySem.F.type_str_join (fun a ha => by cases ha) ?_
  refine cw1 ?_
  walk_at "gs"
  refine r_join1 (F.of (q := (pl, lisO [.str v u] n5)) (by simp)) (IsLst.of _ _) ?_
  walk_at "gs"
  refine mkT F (by show 2 ≤ sizeLine; decide) fun ta h10 _ _ F => ?_
  replace F := F.pull 3 (q := (lx, lisO vs kk))
  simp only [List.eraseIdx] at F
  refine appL F (Nat.le_trans (show vs.length ≤ 1000000 by (first | lia | omega)) (by decide)) fun h11 n11 F => ?_
  walk_at "gs"
  have c := F.led (ta, _) (.tail _ (.head _))
  have c0 := F.led _ (.head _)
  refine H _ _ _ (by (first | lia | omega)) (hide_kpx F.keep) ⟨ta, n11, 0, c0.1, hide_none c.2.2 ?_, c.1⟩
  have nd := F.nd
  simp at nd
  simp
  exact fun z => nd.1.1 z.symm
end
section
variable {w : World} {loose : List Str} {mean : ExcName → Option Value} {mg mb : Str → Option Value} {h : Heap} {tk : Nat}
theorem t_items (x dx lx : Addr) {o : Obj} {vs : List Value} (G : Gd w loose mean mg mb h) (Hh : Hd h x dx lx) (el : h.get? lx = some o) (hl : IsLst o vs) (hz : vs.length < 1000000) :
    Fn w (.ref 244) [.ref x] 2 20 [] h tk (fun r h' _ => ∃ a, r = .ref a ∧ New h h' a (lisO vs 0)) := by
  intro dp un fr gd s₀ Q hd hu H
  refine enterP (by assumption) (by rfl) (by rfl) (by (first | lia | omega)) (by rfl) (by rfl) ?_ (by rfl) (by rfl) (by rfl) (by decide)
  intro fr' L h₁ tk₁ t₁ F
  walk_at "g"
  walk_at "g"
  refine slcV (s₀ := s₀) ?_
  refine Attribute_name ?_
  walk_at "gs"
  refine r_getH G F.keep (Hh.keeps F.keep) fun tk8 t8 => ?_
  refine wpAny_pure ?_
  refine wpAny_pure ?_
  refine wpAny_pure ?_
  refine SV.mk (vs := vs) (lo := none) (hi := none) (k := none) F (F.keep _ _ el) hl (Nat.le_trans (show vs.length ≤ 1000000 by (first | lia | omega)) (by decide)) .none .none .none (by simp) fun D h2 F => ?_
  rw [slicePick_all] at F
  have c := F.led _ (.head _)
  walk_at "gK"
  exact H _ _ _ (by (first | lia | omega)) (fun b o _ => F.keep b o) ⟨D, rfl, c.2.2, c.1⟩
end
section
variable {w : World} {loose : List Str} {mean : ExcName → Option Value} {mg mb : Str → Option Value} {h : Heap} {tk : Nat}
theorem r_lower {prog : Program} {A : Around} {s₀ : Shared} {x : Str} {t : Tok} {Q : Value → Shared → Prop} {E : Value → Shared → Prop} (hfit : Builtin.Str.tooLong (Txt.lower x).length = false) (H : ∀ t' tk', tk ≤ tk' → Q (.str (Txt.lower x) t') (St s₀ h tk')) :
    wpAny (model prog w) A (call (.builtin "str.lower") ([.str x t] ++ [])) Q E (St s₀ h tk) := SC.lower (s := St s₀ h tk) hfit (H (tk + 1) (tk + 1) (by (first | lia | omega)))
theorem t_getall {B : Nat} (x dx lx : Addr) {o : Obj} {vs : List Value} {es : List (Str × Str)} (G : Gd w loose mean mg mb h) (Hh : Hd h x dx lx) (el : h.get? lx = some o) (hl : IsLst o vs) (R : RA (At h) B vs (es.map fun e => Dat.tuple [.str e.1, .str e.2])) (hz : vs.length < 1000)
    (n : Str) (t : Tok) (hn : okS nmCode (Txt.lower n) = true) (hnl : (Txt.lower n).cps.size < 1000) (hfn : Builtin.Str.tooLong (Txt.lower n).length = false) (hfit : ∀ e ∈ es, Builtin.Str.tooLong (Txt.lower e.1).length = false) :
    Fn w (.ref 219) [.ref x, .str n t] 6 60 [] h tk (fun r h' _ => ∃ a k ws, r = .ref a ∧ New h h' a (lisO ws k) ∧ RA (At h) B ws ((es.filter (fun e => Txt.lower e.1 == Txt.lower n)).map (fun e => Dat.str e.2))) := by
  intro dp un fr gd s₀ Q hd hu H
  refine enterC (N := []) [("self", .ref x)] G (fun _ _ e => e) (fun _ hq => nomatch hq) List.nodup_nil (by rfl) (by rfl) (by (first | lia | omega)) (BindsTo.of_eq (by rfl)) (by rfl) (by decide) (fun _ => bindL_of) ?_ (by rfl) (by rfl) (by rfl)
  intro fr' L h₁ tk₁ Cs t₁ hC F
  obtain ⟨o1, rfl, d1⟩ := CellsAre.one hC
  replace d1 : o1.data = .cell (some (.str n t)) := d1
  walk_at "g"
  refine wpAny_Assign_Name ?_ (by rfl)
  refine methodCall_KW ?_
  walk_at "gs"
  refine r_mthH G F.keep (Hh.keeps F.keep) (f := 181) (by kernel_rfl) (by kernel_rfl) (hd_sh lx _ (by decide)) ?_
  refine callWith_KW (h₀ := h) G.K ki_conv (by rfl) ?_
  walk_at "gs"
  refine MethodCall_ ?_
  refine nmC (by rfl) (F.of (q := (L + 1, o1)) (.head _)) d1 ?_
  refine GM.lower ?_
  refine cw0 ?_
  refine r_lower hfn fun t2 tk2 t3 => ?_
  walk_at "gs"
  refine kw1 ?_
  refine ⟨G.K.keeps F.keep, ?_⟩
  refine t_conv (G.keeps F.keep) (.ref x) true (Txt.lower n) t2 hn hnl (dp + 1) (un + 3) fr' gd _ _ (by (first | lia | omega)) (by (first | lia | omega)) ?_
  rintro r h4 tk4 t4 kx rfl
  replace F := F.kp (kpx kx)
  with_reducible refine' stC ?hc ?F ?hd ?_ ?hk ?hx
  case F => exact F
  case hd => exact d1
  case hc => rfl
  case hk => rfl
  case hx => rfl
  intro h5 o1' d1' F
  replace F : Fm _ L _ _ _ := F
  walk_at "gs"
  refine compE (cl := [("name", L + 1)]) ?_ (by rfl)
  refine Attribute_name ?_
  walk_at "gs"
  refine r_getH G F.keep (Hh.keeps F.keep) fun tk8 t8 => ?_
  have kc : Cl h5 (L + 1) (.str (Txt.lower n) t2) := ⟨o1', F.of (q := (L + 1, o1')) (.head _), d1'⟩
  refine itrL (F.keep _ _ el) hl fun I h₂ k₂ n₂ s₂ => ?_
  refine comp1 (fun i ws N _ => N = [] ∧ RA (At h) B ws (((es.take i).filter (fun e => Txt.lower e.1 == Txt.lower n)).map (fun e => Dat.str e.2)) ∧ ws.length ≤ i) F k₂ n₂ s₂ (fun C => Dr.list hl rfl) (fun q hq => by rw [List.mem_singleton.mp hq]; exact F.keep _ _ el) ⟨rfl, .nil, Nat.le_refl _⟩ ?_ ?_
  · rintro C D i b l ws m N Is h₃ tkj tk₃ hi hbI t6 t7 ⟨hN, ra, hle⟩ F₃
    replace F₃ := F₃.eqB hN
    refine drV hbI F₃ fun v hv F₃ => ?_
    refine R.atE hv fun e he rv => ?_
    refine RD.ent2 rv fun a w2 k2 t11 ev hm r2 => ?_
    replace F₃ := F₃.val ev
    have ht : h₃.get? a = some (tupO _ k2) := F₃.keep _ _ (F.keep _ _ hm)
    have hee : e ∈ es := List.mem_of_getElem? he
    refine wpAny_tests_one ?_
    walk_at "gs"
    refine MethodCall_ ?_
    walk_at "gs"
    refine itT (j := 0) ht (by decide) (by decide) (by rfl) rfl ?_
    refine GM.lower ?_
    refine cw0 ?_
    refine r_lower (hfit e hee) fun t13 tk13 t14 => ?_
    walk_at "gs"
    have ct : (es.take (i + 1)).filter (fun e => Txt.lower e.1 == Txt.lower n) = (es.take i).filter (fun e => Txt.lower e.1 == Txt.lower n) ++ (if (Txt.lower e.1 == Txt.lower n) = true then [e] else []) := by
      rw [List.take_add_one, he, List.filter_append]
      cases h : (Txt.lower e.1 == Txt.lower n) <;> simp [h]
    refine iteP (fun hp => ?_) fun hp => ?_
    · skip
      walk_at "gs"
      refine itT (j := 1) ht (by decide) (by decide) (by rfl) rfl ?_
      refine CE.mk (by (first | lia | omega)) F₃ (Nat.le_trans (show ws.length ≤ 1000 by (first | lia | omega)) (by decide)) ⟨rfl, ?_, by rw [List.length_append]; simp; (first | lia | omega)⟩
      rw [ct, if_pos hp, List.map_append]
      exact ra.snoc r2
    · skip
      exact CS.mk (by (first | lia | omega)) F₃ ⟨rfl, by rw [ct, if_neg hp, List.append_nil]; exact ra, by (first | lia | omega)⟩
  · rintro C D l' ws m N' h₃ tkj tk₃ t6 t7 ⟨hN, ra, hle⟩ F₃
    replace F₃ := F₃.eqC hN
    have hlen : vs.length = es.length := by rw [R.length, List.length_map]
    rw [hlen, List.take_length] at ra
    refine postV F F₃ fun h₄ F₄ => ?_
    walk_at "gs"
    have c := F₄.led (D, lisO ws m) (by walk_at "mm")
    exact H _ _ _ (by (first | lia | omega)) (fun b o _ => F₄.keep b o) ⟨D, m, ws, rfl, ⟨c.2.2, c.1⟩, ra⟩
end
section
variable {w : World} {loose : List Str} {mean : ExcName → Option Value} {mg mb : Str → Option Value} {h : Heap} {tk : Nat}
noncomputable def prodN (wd : Nat) (ls : List Nat) : Nat := ls.foldl (fun p l => p * (2 ^ (wd * l) - 1)) 1
theorem prodN_lt (wd : Nat) (ls : List Nat) : prodN wd ls ≤ 2 ^ (wd * ls.sum) := by
  have : ∀ (ls : List Nat) (p : Nat), ls.foldl (fun p l => p * (2 ^ (wd * l) - 1)) p ≤ p * 2 ^ (wd * ls.sum) := by
    intro ls
    induction ls with
    | nil => intro p; simp
    | cons l ls ih =>
      intro p
      rw [List.foldl_cons, List.sum_cons]
      refine Nat.le_trans (ih _) ?_
      rw [Nat.mul_add, Nat.pow_add, ← Nat.mul_assoc]
      exact Nat.mul_le_mul_right _ (Nat.mul_le_mul_left _ (Nat.sub_le _ _))
  have h := this ls 1
  rw [Nat.one_mul] at h
  exact h
theorem t_product (G : Gd w loose mean mg mb h) {ax : Addr} {o : Obj} {vs : List Value} {ls : List Nat} (el : h.get? ax = some o) (hl : IsLst o vs) (hv : IntsAre vs (ls.map fun d : Nat => (d : Int))) (wd : Nat) (t : Tok) (hw : wd ≤ 100) (hs : ls.sum ≤ 1000) (hll : ∀ l ∈ ls, l ≤ 100) :
    Fn w (.ref 323) [.ref ax, .int wd t] 6 60 [] h tk (fun r _ _ => ∃ t, r = .int (prodN wd ls : Nat) t) := by
  intro dp un fr gd s₀ Q hd hu H
  refine enterP (by assumption) (by rfl) (by rfl) (by (first | lia | omega)) (by rfl) (by rfl) ?_ (by rfl) (by rfl) (by rfl) (by decide)
  intro fr' L h₁ tk₁ t₁ F
  walk_at "gs"
  replace F := (‹Fm _ _ _ _ _› : Fm _ L _ _ _)
  refine wpAny_For ?_ (by intro _; rfl)
  walk_at "gs"
  refine itrL (F.keep _ _ el) hl fun I h2 k2 n2 s2 => ?_
  replace F := F.its k2 n2
  refine forD (src := [(ax, o)]) (fun i l N _ => (∃ t, lk l "product" = some (.int (prodN wd (ls.take i) : Nat) t)) ∧ lk l "width" = some (.int wd t)) (Dr.list hl rfl) F s2 ⟨⟨_, rfl⟩, rfl⟩ (fun _ _ _ _ _ q hq => by rw [List.mem_singleton.mp hq]; exact .inl el) ?_ ?_
  · rintro i b l N Is h3 tkj tk3 _ _ hi ⟨v, hv', rfl⟩ hS t4 t5 ⟨⟨tp, l1⟩, l2⟩ F
    have hle : vs.length = ls.length := by rw [hv.length, List.length_map]
    obtain ⟨d, hd'⟩ : ∃ d, ls[i]? = some d := ⟨ls[i], by simp⟩
    obtain ⟨tv, hvd⟩ := ints_get hv hd'
    rw [hv'] at hvd
    obtain rfl := Option.some.inj hvd
    have hd100 : d ≤ 100 := hll d (List.mem_of_getElem? hd')
    have ct : prodN wd (ls.take (i + 1)) = prodN wd (ls.take i) * (2 ^ (wd * d) - 1) := by
      rw [List.take_add_one, hd']; simp [prodN, List.foldl_append]
    have hsum : (ls.take i).sum ≤ 1000 := by
      have h1 : ls.sum = (ls.take i).sum + (ls.drop i).sum := by rw [← List.sum_append, List.take_append_drop]
      (first | lia | omega)
    have hb1 := prodN_lt wd (ls.take i)
    walk_at "gs"
    refine callN F G (gn_mul G) ki_mul fun Qc Kc => ?_
    walk_at "gs"
    refine r_mul (fun t9 tk9 t10 => ?_) (IntMulOk.of_le (m := 32) (n := 32) (intBits_le_iff.mpr (by simp; (first | lia | omega))) (intBits_le_iff.mpr (by simp; (first | lia | omega))) (by decide))
    rw [← Int.natCast_mul]
    have hwd : wd * d ≤ 10000 := Nat.mul_le_mul hw hd100
    refine r_shl (Int.natCast_nonneg _) (by
      have : Builtin.Int.intBits (1 : Int) ≤ 1 := intBits_le_iff.mpr (by decide)
      (first | lia | omega)) fun t13 tk13 t14 => ?_
    walk_at "gs"
    have e2 : (1 : Int) * 2 ^ ((wd * d : Nat) : Int).toNat - 1 = ((2 ^ (wd * d) - 1 : Nat) : Int) := by
      have hp := Nat.two_pow_pos (wd * d)
      rw [Int.toNat_natCast, pow_cast, Int.one_mul]
      (first | lia | omega)
    rw [e2]
    refine CN.mk F.keep ?_
    refine t_mul (G.keeps F.keep) _ _ _ _ (IntMulOk.of_le (m := 100001) (n := 10001) (intBits_le_iff.mpr ?_) (intBits_le_iff.mpr ?_) (by decide)) (dp + 1) (un + 3) fr' gd _ _ (by (first | lia | omega)) (by (first | lia | omega)) ?_
    · rw [Int.natAbs_natCast]
      refine Nat.lt_of_le_of_lt hb1 (Nat.pow_lt_pow_right (by decide) ?_)
      have := Nat.mul_le_mul hw hsum
      (first | lia | omega)
    · rw [Int.natAbs_natCast]
      refine Nat.lt_of_le_of_lt (Nat.sub_le _ _) (Nat.pow_lt_pow_right (by decide) (by (first | lia | omega)))
    rintro r h4 tk4 t6 kx ⟨t7, rfl⟩
    refine Le.go Kc ?_
    try clear Kc Qc
    try dsimp only
    replace F := F.kp (kpx kx)
    walk_at "gs"
    replace F := (‹Fm _ _ _ _ _› : Fm _ L _ _ _)
    exact TnD.next F ⟨⟨t7, by rw [ct, Int.natCast_mul]; rfl⟩, l2⟩
  · rintro l N h3 tkj tk3 t4 t5 ⟨⟨tp, l1⟩, l2⟩ F
    have hle : vs.length = ls.length := by rw [hv.length, List.length_map]
    rw [hle, List.take_length] at l1
    try dsimp only
    walk_at "gs"
    exact H _ _ _ (by (first | lia | omega)) (fun b o _ => F.keep b o) ⟨_, rfl⟩
end
section
variable {prog : Program} {w : World} {A : Around} {s₀ : Shared} {g h : Heap} {tk : Nat} {L ax : Addr} {l : List (Str × Value)} {N : Ld} {v : Value} {o : Obj} {vs : List Value} {ns : List Int} {B B' : Nat}
theorem ki_getall {P : Params} : keepIn (hd.heap_1 P) (.ref 219) = true := by kernel_rfl
theorem ki_addh {P : Params} : keepIn (hd.heap_1 P) (.ref 277) = true := by kernel_rfl
theorem ki_items {P : Params} : keepIn (hd.heap_1 P) (.ref 244) = true := by kernel_rfl
theorem rg3 {Q : Value → Shared → Prop} {a b : Int} {t u v : Tok} (ha : (b - a).natAbs < 2 ^ 1000) (H : ∀ r h', Kp h h' → New h h' r (rgO a b (-1) t u v) → Q (.ref r) (St s₀ h' tk)) : wpAny (model prog w) A (call (.type "range") [.int a t, .int b u, .int (-1) v]) Q No (St s₀ h tk) :=
  call_range_3 (s := St s₀ h tk) (by decide) (H _ _ (kp_push _ _) (new_push _ _)) (Or.inl (PyProof.noPylong_of_log2 (by decide +kernel)))
/-- range(b, -1, -1), drawn from -/
theorem itrD {Q : Value → Shared → Prop} {r : Addr} {a : Int} {t u v : Tok} {n : Nat} (e : h.get? r = some (rgO a (-1) (-1) t u v)) (hb : a = (n : Int) - 1) (hb2 : n ≤ 1000000)
    (H : ∀ I h₂, Kp h h₂ → (∀ q ∈ [(I, riO a (-1) n 0)], New h h₂ q.1 q.2) → RgIt I a (-1) n 0 [(I, riO a (-1) n 0)] → Q (.ref I) (St s₀ h₂ tk)) : wpAny (model prog w) A (pyIter (.ref r)) Q No (St s₀ h tk) :=
  itrR e (small_down (by (first | lia | omega)) (by (first | lia | omega)) (by decide) (by decide)) (by rw [rangeSize_downNat]; (first | lia | omega)) H
theorem r_sadd {Q : Value → Shared → Prop} {x y : Str} {t u : Tok} (hsz : x.length + y.length ≤ sizeLine) (H : ∀ t' tk', tk ≤ tk' → Q (.str (x ++ y) t') (St s₀ h tk')) :
    wpAny (model prog w) A (binaryOp .Add (.str x t) (.str y u)) Q No (St s₀ h tk) := by
  refine wpAny_with_toks (n := tk + 1) (Nat.le_refl _) (SB.add (Q := fun r s' => tk + 1 ≤ s'.toks → Q r s') (fun t' k => ?_) hsz)
  intro ht
  have ht' : tk + 1 ≤ k := ht
  show Q _ ({ St s₀ h tk with heap := h, toks := k } : Shared)
  rw [toks_back ht]
  exact H _ _ (by (first | lia | omega))
theorem r_smul0 {Q : Value → Shared → Prop} {x : Str} {t u : Tok} (H : ∀ t' tk', tk ≤ tk' → Q (.str Str.empty t') (St s₀ h tk')) : wpAny (model prog w) A (binaryOp .Mult (.str x t) (.int 0 u)) Q No (St s₀ h tk) :=
  P.mul_str_none (s := St s₀ h tk) (by decide) (by decide) (H (tk + 1) (tk + 1) (by (first | lia | omega)))
end
/-- a bag of hooks that stands: each hook a name and a value -/
noncomputable def Bag (h : Heap) (B : Nat) (x lx : Addr) (ops : List (Nat × Nat)) : Prop :=
  ∃ dx n vs, ∃ es : List (Str × Str), Hd h x dx lx ∧ h.get? lx = some (lisO vs n) ∧ RA (At h) B vs (es.map fun e => Dat.tuple [.str e.1, .str e.2]) ∧
    es.map (fun e => (Txt.lower e.1, e.2)) = ops.map (fun p => (rp "a" (p.1 + 1), rp "x" (p.2 + 1))) ∧ ∀ p ∈ ops, p.1 < 3 ∧ p.2 < 3
theorem Bag.keeps {h h' : Heap} {B B' : Nat} {x lx : Addr} {ops : List (Nat × Nat)} (b : Bag h B x lx ops) (k : Kp h h') (hb : B ≤ B') : Bag h' B' x lx ops := by
  obtain ⟨dx, n, vs, es, h1, h2, h3, h4, h5⟩ := b
  exact ⟨dx, n, vs, es, h1.keeps k, k _ _ h2, h3.mono (fun a o e => k _ _ e) hb, h4, h5⟩
theorem rpa_inj : ∀ i j : Nat, i < 3 → j < 3 → (rp "a" (i + 1) == rp "a" (j + 1)) = (i == j) := by
  have : ∀ i : Fin 3, ∀ j : Fin 3, (rp "a" (i.val + 1) == rp "a" (j.val + 1)) = (i.val == j.val) := by decide +kernel
  intro i j hi hj
  exact this ⟨i, hi⟩ ⟨j, hj⟩
theorem rpx_inj : ∀ i j : Nat, i < 3 → j < 3 → (rp "x" (i + 1) == rp "x" (j + 1)) = (i == j) := by
  have : ∀ i : Fin 3, ∀ j : Fin 3, (rp "x" (i.val + 1) == rp "x" (j.val + 1)) = (i.val == j.val) := by decide +kernel
  intro i j hi hj
  exact this ⟨i, hi⟩ ⟨j, hj⟩
/-- what get_all tells of a row -/
theorem told_eq {es : List (Str × Str)} {ops : List (Nat × Nat)} (he : es.map (fun e => (Txt.lower e.1, e.2)) = ops.map (fun p => (rp "a" (p.1 + 1), rp "x" (p.2 + 1)))) (hv : ∀ p ∈ ops, p.1 < 3 ∧ p.2 < 3) {n : Str} {row : Nat} (hn : Txt.lower n = rp "a" (row + 1)) (hr : row < 3) :
    (es.filter (fun e => Txt.lower e.1 == Txt.lower n)).map (fun e => e.2) = (ops.filter (fun p => p.1 == row)).map (fun p => rp "x" (p.2 + 1)) := by
  rw [hn]
  induction es generalizing ops with
  | nil => cases ops with
    | nil => rfl
    | cons p ops => simp at he
  | cons e es ih => cases ops with
    | nil => simp at he
    | cons p ops =>
      rw [List.map_cons, List.map_cons, List.cons.injEq, Prod.mk.injEq] at he
      have := ih he.2 fun q hq => hv q (.tail _ hq)
      rw [List.filter_cons, List.filter_cons, he.1.1, rpa_inj _ _ (hv p (.head _)).1 hr]
      by_cases h : (p.1 == row) = true
      · rw [if_pos h, if_pos h, List.map_cons, List.map_cons, this, he.1.2]
      · rw [if_neg h, if_neg h, this]
theorem told_count {ops : List (Nat × Nat)} (hv : ∀ p ∈ ops, p.1 < 3 ∧ p.2 < 3) {row c : Nat} (hc : c < 3) : ((ops.filter (fun p => p.1 == row)).map (fun p => rp "x" (p.2 + 1))).count (rp "x" (c + 1)) = ops.count (row, c) := by
  induction ops with
  | nil => rfl
  | cons p ops ih =>
    have := ih fun q hq => hv q (.tail _ hq)
    rw [List.filter_cons, List.count_cons]
    obtain ⟨a, b⟩ := p
    have hb := rpx_inj b c (hv _ (.head _)).2 hc
    dsimp only
    by_cases h : (a == row) = true
    · rw [if_pos h, List.map_cons, List.count_cons, this, hb]
      have ha : a = row := by simpa using h
      subst ha
      by_cases hbc : b = c
      · subst hbc; simp
      · have : ¬ ((a, b) == (a, c)) = true := by simp [hbc]
        rw [if_neg this, if_neg (by simpa using hbc)]
    · rw [if_neg h, this]
      have : ¬ ((a, b) == (row, c)) = true := by
        simp only [beq_iff_eq, Prod.mk.injEq] at h ⊢
        exact fun q => h q.1
      rw [if_neg this]; rfl
theorem rp_low : ∀ k : Nat, k < 3 → Txt.lower (rp "a" (k + 1)) = rp "a" (k + 1) ∧ Txt.lower (rp "A" (k + 1)) = rp "a" (k + 1) ∧ okS nmCode (rp "a" (k + 1)) = true ∧ okS nmCode (rp "A" (k + 1)) = true ∧ okS vlCode (rp "x" (k + 1)) = true ∧
    (rp "a" (k + 1)).cps.size = k + 1 ∧ (rp "A" (k + 1)).cps.size = k + 1 ∧ (rp "x" (k + 1)).cps.size = k + 1 := by
  have : ∀ k : Fin 3, Txt.lower (rp "a" (k.val + 1)) = rp "a" (k.val + 1) ∧ Txt.lower (rp "A" (k.val + 1)) = rp "a" (k.val + 1) ∧ okS nmCode (rp "a" (k.val + 1)) = true ∧ okS nmCode (rp "A" (k.val + 1)) = true ∧ okS vlCode (rp "x" (k.val + 1)) = true ∧
    (rp "a" (k.val + 1)).cps.size = k.val + 1 ∧ (rp "A" (k.val + 1)).cps.size = k.val + 1 ∧ (rp "x" (k.val + 1)).cps.size = k.val + 1 := by decide +kernel
  exact fun k hk => this ⟨k, hk⟩
theorem rp_nm : ∀ k : Nat, k < 3 → Txt.lower ("A" ++ rp "a" k) = rp "a" (k + 1) ∧ (rp "a" k).cps.size = k := by
  have : ∀ k : Fin 3, Txt.lower ("A" ++ rp "a" k.val) = rp "a" (k.val + 1) ∧ (rp "a" k.val).cps.size = k.val := by decide +kernel
  exact fun k hk => this ⟨k, hk⟩
theorem bag_fit {es : List (Str × Str)} {ops : List (Nat × Nat)} (he : es.map (fun e => (Txt.lower e.1, e.2)) = ops.map (fun p => (rp "a" (p.1 + 1), rp "x" (p.2 + 1)))) (hv : ∀ p ∈ ops, p.1 < 3 ∧ p.2 < 3) : ∀ e ∈ es, Builtin.Str.tooLong (Txt.lower e.1).length = false := by
  intro e hm
  have : (Txt.lower e.1, e.2) ∈ ops.map (fun p => (rp "a" (p.1 + 1), rp "x" (p.2 + 1))) := he ▸ List.mem_map_of_mem hm
  obtain ⟨p, hp, q⟩ := List.mem_map.mp this
  rw [← (Prod.mk.inj q).1]
  have h3 := (hv p hp).1
  show decide ((rp "a" (p.1 + 1)).cps.size > sizeLine) = false
  rw [(rp_low p.1 h3).2.2.2.2.2.1]
  have : (3 : Nat) ≤ sizeLine := by decide
  exact decide_eq_false (by (first | lia | omega))
theorem rp_one : rp "a" 1 = "a" ∧ rp "A" 1 = "A" ∧ rp "x" 1 = "x" ∧ rp "A" 2 = "AA" ∧ rp "a" 3 = "aaa" := by decide +kernel
section
variable {w : World} {loose : List Str} {mean : ExcName → Option Value} {mg mb : Str → Option Value} {h : Heap} {tk : Nat}
noncomputable def Shp (ss : List Nat) : Prop := ss ≠ [] ∧ ss.length ≤ 3 ∧ (∀ x ∈ ss, 1 ≤ x ∧ x ≤ 3) ∧ ss.Pairwise (fun a b => b ≤ a)
theorem three {ws : List Value} {ms : List Int} {G : Prop} (ra : IntsAre ws ms) (hms : 3 = ms.length) (K : ∀ a b c u v w, ms = [a, b, c] → ws = [.int a u, .int b v, .int c w] → G) : G := by
  cases ra with
  | nil => cases hms
  | cons a u r => cases r with
    | nil => cases hms
    | cons b v r => cases r with
      | nil => cases hms
      | cons c w r => cases r with
        | nil => exact K _ _ _ _ _ _ rfl rfl
        | cons d t r => cases hms
theorem t_sizes (G : Gd w loose mean mg mb h) {ax : Addr} {o : Obj} {vs : List Value} {ns : List Int} (el : h.get? ax = some o) (hl : IsLst o vs) (hi : IntsAre vs ns) (hz : vs.length ≤ 1000) :
    Fn w (.ref 289) [.ref ax] 5 60 [] h tk (fun r h' _ => ∃ a n vs' ss, r = .ref a ∧ New h h' a (lisO vs' n) ∧ IntsAre vs' (ss.map fun d : Nat => (d : Int)) ∧ Shp ss) := by
  intro dp un fr gd s₀ Q hd hu H
  refine enterC (N := []) [] G (fun _ _ e => e) (fun _ hq => nomatch hq) List.nodup_nil (by rfl) (by rfl) (by (first | lia | omega)) (BindsTo.of_eq (by rfl)) (by rfl) (by decide) (fun _ => bindL_of) ?_ (by rfl) (by rfl) (by rfl)
  intro fr' L h₁ tk₁ Cs t₁ hC F
  obtain ⟨o0, rfl, hc0⟩ := CellsAre.one hC
  replace hc0 : o0.data = .cell (some (.ref ax)) := hc0
  have kc : Cl h₁ (L + 1) (.ref ax) := ⟨o0, (F.led _ (.head _)).1, hc0⟩
  have el1 := F.keep _ _ el
  walk_at "g"
  refine compA (cl := [("row", L + 1)]) ?_ (by rfl)
  refine callT F G (bn_range G) bv_range ?_
  walk_at "gs"
  refine rg1 fun r h2 tk2 u v t2 k2 n2 => ?_
  refine itr1 (n := 3) n2.2 (by rfl) (by decide) (by decide) fun I h3 k3 n3 s3 => ?_
  replace F := F.new k2 n2.1 n2.2
  have kc2 := kc.keeps k2
  have el2 := F.keep _ _ el
  have G2 := G.keeps F.keep
  refine comp1 (fun i vs N _ => N = [] ∧ vs.length = i ∧ ∃ ms, IntsAre vs ms) F k3 n3 s3 (fun C => Dr.range rfl) (fun q hq => nomatch hq) ⟨rfl, rfl, [], .nil⟩ ?_ ?_
  · rintro C D i b l ws m N Is h₃ tkj tk₃ hi' hbI t4 t5 ⟨hN, hle, ms, ra⟩ F₃
    replace F₃ := F₃.eqB hN
    refine drT hbI F₃ fun tb F₃ => ?_
    refine wpAny_tests_nil ?_
    refine iteT rfl ?_
    refine callB F₃ G2 (bn_sum G2) bv_sum ?_
    refine spliced_more ?_ (by rfl)
    refine slcV (s₀ := s₀) ?_
    walk_at "gs"
    refine evS ?_
    walk_at "gs"
    refine evN ?_
    refine evS ?_
    walk_at "gs"
    refine SV.mk (vs := vs) F₃ (F₃.keep _ _ el2) hl (Nat.le_trans hz (by decide)) (.int _ _) .none (.int _ _) (by simp) fun D2 h4 F4 => ?_
    walk_at "gs"
    have hi2 := hi.pick (some (0 + ((i : Nat) : Int) * 1)) none (some 3)
    refine r_sumL rfl F4 (F4.of (.head _)) (IsLst.of _ _) hi2 fun t5 h5 tk5 t6 k6 F5 => ?_
    exact CE.mk (N := []) (by (first | lia | omega)) (F5.sub (List.sublist_cons_self _ _)) (Nat.le_trans (show ws.length ≤ 3 by (first | lia | omega)) (by decide)) ⟨rfl, by rw [List.length_append, hle]; rfl, _, ra.append (.cons _ _ .nil)⟩
  · rintro C D l' ws m N' h₃ tkj tk₃ t4 t5 ⟨hN, hle, ms, ra⟩ F₃
    replace F₃ := F₃.eqC hN
    refine postA F F₃ fun h4 tk4 t6 F => ?_
    have hms := ra.length
    rw [hle] at hms
    refine three ra hms fun m0 m1 m2 u0 u1 u2 ems ews => ?_
    rw [ews] at F
    walk_at "gs"
    refine callB F G (bn_sorted G) bv_sorted ?_
    walk_at "gs"
    refine itL (F.of (q := (D, lisO [.int m0 u0, .int m1 u1, .int m2 u2] m)) (by walk_at "mm")) (IsLst.of _ _) (by decide) (by decide) (v := .int m0 u0) (by rfl) ?_
    walk_at "gs"
    refine r_mod (by decide) fun t7 tk7 t8 => ?_
    walk_at "gs"
    refine itL (F.of (q := (D, lisO [.int m0 u0, .int m1 u1, .int m2 u2] m)) (by walk_at "mm")) (IsLst.of _ _) (by decide) (by decide) (v := .int m1 u1) (by rfl) ?_
    walk_at "gs"
    refine r_mod (by decide) fun t9 tk9 t10 => ?_
    walk_at "gs"
    refine itL (F.of (q := (D, lisO [.int m0 u0, .int m1 u1, .int m2 u2] m)) (by walk_at "mm")) (IsLst.of _ _) (by decide) (by decide) (v := .int m2 u2) (by rfl) ?_
    walk_at "gs"
    refine r_mod (by decide) fun t11 tk11 t12 => ?_
    walk_at "gs"
    refine mkL F (by show 3 ≤ sizeLine; decide) fun lx h5 _ _ F => ?_
    walk_at "gs"
    refine r_sorted F (F.of (.head _)) (IsLst.of _ _) (.cons _ _ (.cons _ _ (.cons _ _ .nil))) (by show 3 < 64; decide) fun D2 n2 vs2 ns2 h6 k6 hD2 hi2 hp2 hs2 F => ?_
    walk_at "gs"
    replace F := (‹Fm _ _ _ _ _› : Fm _ L _ _ _)
    refine compE (cl := []) ?_ (by rfl)
    refine slcV (s₀ := s₀) ?_
    walk_at "gs"
    refine evN ?_
    refine evN ?_
    refine evS ?_
    walk_at "gs"
    refine SV.mk (vs := vs2) (lo := none) (hi := none) (k := some (-1)) F (F.of (q := (D2, lisO vs2 n2)) (by walk_at "mm")) (IsLst.of _ _) ?_ .none .none (.int _ _) (by simp) fun D3 h7 F => ?_
    · rw [hi2.length, hp2.length_eq]; show 3 ≤ sizeLine; decide
    rw [krv_pick] at F
    have hir : IntsAre vs2.reverse ns2.reverse := RA.toInts (H := fun _ _ => True) (B := 0) (by rw [List.map_reverse]; exact (RA.ints hi2).reverse)
    refine itrL (F.of (.head _)) (IsLst.of _ _) fun I h8 k8 n8 s8 => ?_
    have eD3 := F.of (q := (D3, lisO vs2.toArray.toList.reverse.toArray.toList 0)) (.head _)
    refine comp1 (fun i vs N _ => N = [] ∧ IntsAre vs ((ns2.reverse.take i).filter (fun x => decide (0 < x)))) F k8 n8 s8 (fun C => Dr.list (IsLst.of _ _) rfl) (fun q hq => by rw [List.mem_singleton.mp hq]; exact eD3) ⟨rfl, .nil⟩ ?_ ?_
    · rintro C D i b l ws m N Is h₃ tkj tk₃ hi' hbI t13 t14 ⟨hN, ra⟩ F₃
      replace F₃ := F₃.eqB hN
      refine drI hir hbI F₃ fun x tx hx F₃ => ?_
      have ct : (ns2.reverse.take (i + 1)).filter (fun x => decide (0 < x)) = (ns2.reverse.take i).filter (fun x => decide (0 < x)) ++ (if 0 < x then [x] else []) := by
        rw [List.take_add_one, hx, List.filter_append]
        by_cases h : 0 < x <;> simp [h]
      refine wpAny_tests_one ?_
      walk_at "gs"
      refine iteP (fun e => ?_) fun e => ?_
      · skip
        have e : 0 < x := by simpa using e
        walk_at "gs"
        refine CE.mk (by (first | lia | omega)) F₃ ?_ ⟨rfl, ?_⟩
        · have h1 := ra.length
          have h2 := List.length_filter_le (fun x => decide (0 < x)) (ns2.reverse.take i)
          have h3 := List.length_take_le i ns2.reverse
          have h4 : i < 3 := by
            have := hi'
            simp only [List.length_reverse] at this
            rw [hi2.length, hp2.length_eq] at this
            exact this
          exact Nat.le_trans (show ws.length ≤ 3 by (first | lia | omega)) (by decide)
        · rw [ct, if_pos e]
          exact ra.append (.cons _ _ .nil)
      · skip
        have e : ¬ 0 < x := by simpa using e
        exact CS.mk (by (first | lia | omega)) F₃ ⟨rfl, by rw [ct, if_neg e, List.append_nil]; exact ra⟩
    · rintro C D l' ws m N' h₃ tkj tk₃ t6 t7 ⟨hN, ra⟩ F₃
      replace F₃ := F₃.eqC hN
      have hlen : vs2.toArray.toList.reverse.toArray.toList.length = ns2.reverse.length := by simp [hi2.length]
      rw [hlen, List.take_length] at ra
      refine postV F F₃ fun h₄ F₄ => ?_
      walk_at "gs"
      have c := F₄.led (D, lisO ws m) (by walk_at "mm")
      have hpos : ∀ x ∈ ns2, 0 ≤ x ∧ x ≤ 3 := fun x hx => by
        have := hp2.mem_iff.mp hx
        simp only [List.mem_cons, List.not_mem_nil, or_false] at this
        have e3 : (m0 + 2).fmod 3 = (m0 + 2) % 3 := Int.fmod_eq_emod_of_nonneg _ (by decide)
        have e4 : (m1 + 1).fmod 4 = (m1 + 1) % 4 := Int.fmod_eq_emod_of_nonneg _ (by decide)
        have e5 : (m2 + 2).fmod 4 = (m2 + 2) % 4 := Int.fmod_eq_emod_of_nonneg _ (by decide)
        (first | lia | omega)
      refine H _ _ _ (by (first | lia | omega)) (fun b o _ => F₄.keep b o) ⟨D, m, ws, (ns2.reverse.filter (fun x => decide (0 < x))).map Int.toNat, rfl, ⟨c.2.2, c.1⟩, ?_, ?_, ?_, ?_, ?_⟩
      · rw [List.map_map]
        have : (ns2.reverse.filter (fun x => decide (0 < x))).map ((fun d : Nat => (d : Int)) ∘ Int.toNat) = ns2.reverse.filter (fun x => decide (0 < x)) := by
          conv => rhs; rw [← List.map_id (ns2.reverse.filter _)]
          refine List.map_congr_left fun x hx => ?_
          have := (hpos x (by simpa using (List.mem_filter.mp hx).1)).1
          show ((x.toNat : Nat) : Int) = x
          (first | lia | omega)
        rw [this]; exact ra
      · have hm : (1 + (m0 + 2).fmod 3) ∈ ns2 := hp2.mem_iff.mpr (.head _)
        have e3 : (m0 + 2).fmod 3 = (m0 + 2) % 3 := Int.fmod_eq_emod_of_nonneg _ (by decide)
        have : (1 + (m0 + 2).fmod 3).toNat ∈ (ns2.reverse.filter (fun x => decide (0 < x))).map Int.toNat :=
          List.mem_map_of_mem (List.mem_filter.mpr ⟨by simpa using hm, decide_eq_true (by (first | lia | omega))⟩)
        exact List.ne_nil_of_mem this
      · rw [List.length_map]
        refine Nat.le_trans (List.length_filter_le _ _) ?_
        rw [List.length_reverse, hp2.length_eq]; exact Nat.le_refl 3
      · intro x hx
        obtain ⟨y, hy, rfl⟩ := List.mem_map.mp hx
        have h1 := List.mem_filter.mp hy
        have := hpos y (by simpa using h1.1)
        have : 0 < y := by simpa using h1.2
        (first | lia | omega)
      · refine List.pairwise_map.mpr (List.Pairwise.filter _ (List.Pairwise.imp (fun {a b} h => ?_) (List.pairwise_reverse.mpr hs2)))
        (first | lia | omega)
end
section
variable {w : World} {loose : List Str} {mean : ExcName → Option Value} {mg mb : Str → Option Value} {h : Heap} {tk : Nat}
/-- rows that never fall, nor do their columns -/
noncomputable def MonoL (rows : List (List Nat)) : Prop := (∀ r ∈ rows, r.Pairwise (· ≤ ·)) ∧ ∀ (i : Nat) (p q : List Nat), rows[i]? = some p → rows[i + 1]? = some q → ∀ (j x y : Nat), p[j]? = some x → q[j]? = some y → x ≤ y
theorem t_second (G : Gd w loose mean mg mb h) {ax bx : Addr} {o ob : Obj} {vs ws : List Value} {ss : List Nat} {ms : List Int} (el : h.get? ax = some o) (hl : IsLst o vs) (hi : IntsAre vs (ss.map fun d : Nat => (d : Int))) (hs : Shp ss)
    (eb : h.get? bx = some ob) (hb : IsLst ob ws) (hm : IntsAre ws ms) (hz : ws.length ≤ 1000) (hne : ms ≠ []) :
    Fn w (.ref 311) [.ref ax, .ref bx] 5 60 [] h tk (fun r h' _ => ∃ a rows, r = .ref a ∧ RD (New h h') 0 (.ref a) (gD rows) ∧ rows.map List.length = ss ∧ MonoL rows ∧ ∀ r ∈ rows, ∀ x ∈ r, x ≤ 18) := by
  intro dp un fr gd s₀ Q hd hu H
  refine enterP (by assumption) (by rfl) (by rfl) (by (first | lia | omega)) (by rfl) (by rfl) ?_ (by rfl) (by rfl) (by rfl) (by decide)
  intro fr' L h₁ tk₁ t₁ F
  walk_at "gs"
  refine mkL F (by show 0 ≤ sizeLine; decide) fun ga h2 _ _ F => ?_
  walk_at "gs"
  replace F := (‹Fm _ _ _ _ _› : Fm _ L _ _ _)
  refine wpAny_For ?_ (by intro _; rfl)
  refine callT F G (bn_enumerate G) bv_enumerate ?_
  walk_at "gs"
  refine r_enum (F.keep _ _ el) hl fun E I h3 Is k3 n3 nd3 s3 hEI => ?_
  refine EnIt.iter s3 (fun q hq => (n3 q hq).2) ?_
  replace F := F.itsN k3 n3 nd3
  have hle : vs.length = ss.length := by rw [hi.length, List.length_map]
  refine forD (src := [(ax, o)]) (fun i l N _ => ∀ G : Prop, (lk l "grid" = some (.ref ga) → lk l "numbers" = some (.ref bx) → ∀ rows Rs n, N = (ga, lisO (Rs.map fun q => .ref q.1) n) :: Rs → RowsAre Rs rows → rows.map List.length = ss.take i → MonoL rows → (∀ r ∈ rows, ∀ x ∈ r, x ≤ 6 * i) → G) → G)
    (Dr.enum hl hEI rfl) F s3 (fun _ kZ => kZ rfl rfl [] [] _ rfl .nil rfl ⟨(fun _ h => nomatch h), fun i p q hp => by simp at hp⟩ (fun _ h => nomatch h)) (fun _ _ _ _ _ q hq => by rw [List.mem_singleton.mp hq]; exact .inl el) ?_ ?_
  · rintro i b l N Is h4 tkj tk4 _ _ hi4 hbI hS t4 t5 hJJ F
    refine drE hbI F fun tb v hv F => ?_
    refine hJJ _ fun l1 l2 rows Rs n hN X hrl hM hBd => ?_
    replace F := F.eqA hN
    obtain ⟨d, hd'⟩ : ∃ d, ss[i]? = some d := ⟨ss[i]'(by (first | lia | omega)), by simp⟩
    obtain ⟨tv, hvd⟩ := ints_get hi hd'
    rw [hv] at hvd
    obtain rfl := Option.some.inj hvd
    walk_at "gs"
    refine mkL F (by show 0 ≤ sizeLine; decide) fun la h5 _ _ F => ?_
    walk_at "gs"
    replace F := (‹Fm _ _ _ _ _› : Fm _ L _ _ _)
    refine wpAny_For ?_ (by intro _; rfl)
    refine callT F G (bn_range G) bv_range ?_
    walk_at "gs"
    refine rg1 fun r h6 tk6 u v t6 k6 n6 => ?_
    have hds : 1 ≤ d ∧ d ≤ 3 := hs.2.2.1 d (List.mem_of_getElem? hd')
    have hi3 : i < 3 := Nat.lt_of_lt_of_le (by (first | lia | omega) : i < ss.length) hs.2.1
    have hrl2 : rows.length = i := by
      have := congrArg List.length hrl
      rw [List.length_map, List.length_take] at this
      (first | lia | omega)
    refine itr1 (n := d) n6.2 (by rfl) (by (first | lia | omega)) (by (first | lia | omega)) fun I2 h7 k7 n7 s7 => ?_
    replace F := (F.kp k6).itsN k7 n7 (List.nodup_cons.mpr ⟨(fun h => nomatch h), List.nodup_nil⟩)
    refine forD (src := []) (fun j l N _ => ∀ G : Prop, (lk l "grid" = some (.ref ga) → lk l "numbers" = some (.ref bx) → lk l "line" = some (.ref la) → ∀ t, lk l "row" = some (.int (i : Int) t) → ∀ cur cvs n2, N = (la, lisO cvs n2) :: (Is ++ (ga, lisO (Rs.map fun q => .ref q.1) n) :: Rs) → IntsAre cvs (cur.map fun d : Nat => (d : Int)) → cur.length = j → cur.Pairwise (· ≤ ·) → (∀ y ∈ cur, y ≤ 6 * i + 2 * j) → (∀ p, 0 < i → rows[i - 1]? = some p → ∀ (j x y : Nat), p[j]? = some x → cur[j]? = some y → x ≤ y) → G) → G)
      (Dr.range rfl) F s7 (fun _ kZ => kZ l1 l2 rfl tb rfl [] [] _ rfl .nil rfl .nil (fun _ h => nomatch h) (fun p _ _ j x y _ h => by simp at h)) (fun _ _ _ _ _ q hq => nomatch hq) ?_ ?_
    · rintro j b l N Is2 h8 tkj8 tk8 _ _ hj hbI hS8 t8 t9 hJJ F
      refine drT hbI F fun tc F => ?_
      refine hJJ _ fun l1 l2 l3 tr l4 cur cvs n2 hN hci hcl hcp hcb hcc => ?_
      replace F := F.eqA hN
      walk_at "gs"
      refine r_mul (fun t9 tk9 t10 => ?_) (IntMulOk.of_le (m := 3) (n := 3) (intBits_le_iff.mpr (by decide)) (intBits_le_iff.mpr (by rw [Int.natAbs_natCast]; (first | lia | omega))) (by decide))
      walk_at "gs"
      replace F := (‹Fm _ _ _ _ _› : Fm _ L _ _ _)
      refine callB F G (bn_max G) bv_max ?_
      refine spliced_more ?_ (by rfl)
      refine midV (R := fun v => ∃ (x : Nat) (t : Tok), v = .int (x : Int) t ∧ (∀ y ∈ cur, y ≤ x) ∧ x ≤ 6 * i + 2 * j) ?_ ?_
      · walk_at "gs"
        refine iteP (fun hj0 => ?_) fun hj0 => ?_
        · skip
          have hj0 : 0 < j := by simpa using hj0
          obtain ⟨x, hx⟩ : ∃ x, cur[j - 1]? = some x := ⟨cur[j - 1]'(by (first | lia | omega)), by simp⟩
          obtain ⟨tx, hxv⟩ := ints_get hci hx
          have hcl2 : cvs.length = j := by rw [hci.length, List.length_map, hcl]
          walk_at "gs"
          refine itN (F.of (q := (la, lisO cvs n2)) (by walk_at "mm")) (IsLst.of _ _) (by decide) (by (first | lia | omega)) (by (first | lia | omega)) (v := .int (x : Int) tx) (by rw [hcl2, show (-1 + (j : Int)).toNat = j - 1 by (first | lia | omega)]; exact hxv) ?_
          refine MidV.mk (by (first | lia | omega)) ⟨x, tx, rfl, fun y hy => ?_, hcb x (List.mem_of_getElem? hx)⟩
          obtain ⟨k, hk⟩ := List.getElem?_of_mem hy
          have hk2 := (List.getElem?_eq_some_iff.mp hk).1
          obtain ⟨hxl, hxe⟩ := List.getElem?_eq_some_iff.mp hx
          obtain ⟨hyl, hye⟩ := List.getElem?_eq_some_iff.mp hk
          by_cases e : k = j - 1
          · subst e; rw [hx] at hk; cases hk; exact Nat.le_refl _
          · have := List.pairwise_iff_getElem.mp hcp k (j - 1) hyl hxl (by (first | lia | omega))
            rw [hxe, hye] at this
            exact this
        · skip
          have hj0 : j = 0 := by simpa using hj0
          walk_at "gs"
          refine MidV.mk (by (first | lia | omega)) ⟨0, _, rfl, fun y hy => ?_, Nat.zero_le _⟩
          rw [List.length_eq_zero_iff.mp (by (first | lia | omega) : cur.length = 0)] at hy
          cases hy
      rintro v tk10 t11 ⟨x1, tx1, rfl, hx1, hx1b⟩
      refine spliced_more ?_ (by rfl)
      refine midV (R := fun v => ∃ (x : Nat) (t : Tok), v = .int (x : Int) t ∧ (∀ p, 0 < i → rows[i - 1]? = some p → ∀ y, p[j]? = some y → y ≤ x) ∧ x ≤ 6 * i) ?_ ?_
      · walk_at "gs"
        refine iteP (fun hi0 => ?_) fun hi0 => ?_
        · skip
          have hi0 : 0 < i := by simpa using hi0
          obtain ⟨p, hp⟩ : ∃ p, rows[i - 1]? = some p := ⟨rows[i - 1]'(by (first | lia | omega)), by simp⟩
          obtain ⟨ra, ro, rv, hR1, hR2, hR3⟩ := X.get hp
          have hpl : d ≤ p.length := by
            have h1 : (rows.map List.length)[i - 1]? = some p.length := by rw [List.getElem?_map, hp]; rfl
            rw [hrl, List.getElem?_take, if_pos (by (first | lia | omega))] at h1
            obtain ⟨q1, q2⟩ := List.getElem?_eq_some_iff.mp h1
            obtain ⟨q3, q4⟩ := List.getElem?_eq_some_iff.mp hd'
            have := List.pairwise_iff_getElem.mp hs.2.2.2 (i - 1) i q1 q3 (by (first | lia | omega))
            rw [q2, q4] at this
            exact this
          obtain ⟨x, hx⟩ : ∃ x, p[j]? = some x := ⟨p[j]'(by (first | lia | omega)), by simp⟩
          obtain ⟨tx, hxv⟩ := ints_get hR3 hx
          have hRl : Rs.length = i := by rw [X.length, hrl2]
          have hgl : (Rs.map fun q => Value.ref q.1).length = i := by rw [List.length_map, hRl]
          walk_at "gs"
          refine itN (F.of (q := (ga, lisO (Rs.map fun q => .ref q.1) n)) (by walk_at "mm")) (IsLst.of _ _) (by decide) (by (first | lia | omega)) (by (first | lia | omega)) (v := .ref ra) (by rw [hgl, show (-1 + (i : Int)).toNat = i - 1 by (first | lia | omega), List.getElem?_map, hR1]; rfl) ?_
          walk_at "gs"
          refine itL (F.of (q := (ra, ro)) (by have := List.mem_of_getElem? hR1; simp [this])) hR2 (by (first | lia | omega)) (by (first | lia | omega)) (v := .int (x : Int) tx) (by rw [show (0 + (j : Int) * 1).toNat = j by (first | lia | omega)]; exact hxv) ?_
          refine MidV.mk (by (first | lia | omega)) ⟨x, tx, rfl, fun p' _ hp' y hy => ?_, hBd p (List.mem_of_getElem? hp) x (List.mem_of_getElem? hx)⟩
          rw [hp] at hp'; cases hp'
          rw [hx] at hy; cases hy; exact Nat.le_refl _
        · skip
          have hi0 : i = 0 := by simpa using hi0
          walk_at "gs"
          exact MidV.mk (by (first | lia | omega)) ⟨0, _, rfl, fun p h => by (first | lia | omega), Nat.zero_le _⟩
      rintro v tk12 t13 ⟨x2, tx2, rfl, hx2, hx2b⟩
      walk_at "gs"
      refine r_max2 rfl F fun tm h13 tk13 t14 F => ?_
      walk_at "gs"
      replace F := (‹Fm _ _ _ _ _› : Fm _ L _ _ _)
      refine wpAny_Expr_any ?_
      refine MethodCall_ ?_
      walk_at "gs"
      refine mth_append (F.of (q := (la, lisO cvs n2)) (by walk_at "mm")) ?_
      refine cw1 ?_
      walk_at "gs"
      refine callB F G (bn_len G) bv_len ?_
      walk_at "gs"
      have hwl : ws.length = ms.length := hm.length
      have hw0 : 0 < ws.length := by
        rw [hwl]; exact List.length_pos_iff.mpr hne
      refine lenL (F.keep _ _ eb) hb (by (first | lia | omega)) fun t15 tk15 t16 => ?_
      walk_at "gs"
      refine r_mod (by (first | lia | omega)) fun t17 tk17 t18 => ?_
      walk_at "gs"
      have hfm : (3 * (i : Int) + (0 + (j : Int) * 1)).fmod (ws.length : Int) = (((3 * i + j) % ws.length : Nat) : Int) := by
        rw [show 3 * (i : Int) + (0 + (j : Int) * 1) = ((3 * i + j : Nat) : Int) by (first | lia | omega), fmod_nat]
      have hml : (3 * i + j) % ws.length < ws.length := Nat.mod_lt _ hw0
      rw [hfm]
      obtain ⟨z, hz1⟩ : ∃ z, ms[(3 * i + j) % ws.length]? = some z := ⟨ms[(3 * i + j) % ws.length]'(by (first | lia | omega)), by simp⟩
      obtain ⟨wv, hw1, hw2⟩ := (RA.ints (H := fun _ _ => True) (B := 0) hm).getD (k := (3 * i + j) % ws.length) (d := .int z) (by simp [hz1])
      cases hw2
      refine itL (F.keep _ _ eb) hb (by (first | lia | omega)) (by (first | lia | omega)) (by rw [Int.toNat_natCast]; exact hw1) ?_
      walk_at "gs"
      have hp3 : 3 * (i : Int) + (0 + (j : Int) * 1) + 1 = ((3 * i + j + 1 : Nat) : Int) := by (first | lia | omega)
      rw [hp3]
      refine r_fdiv (by (first | lia | omega)) (by rw [Int.natAbs_natCast]; exact Nat.lt_of_le_of_lt (Nat.log2_le_self _) (by (first | lia | omega))) fun t19 tk19 t20 => ?_
      walk_at "gs"
      refine r_mod (by decide) fun t21 tk21 t22 => ?_
      walk_at "gs"
      have hcl2 : cvs.length = j := by rw [hci.length, List.length_map, hcl]
      refine appL (F.perm List.perm_middle) (Nat.le_trans (show cvs.length ≤ 3 by (first | lia | omega)) (by decide)) fun h23 n23 F => ?_
      replace F := F.perm List.perm_middle.symm
      walk_at "gs"
      have hq0 : 0 ≤ (z.fdiv ((3 * i + j + 1 : Nat) : Int)).fmod 3 := by rw [Int.fmod_eq_emod_of_nonneg _ (by decide)]; (first | lia | omega)
      obtain ⟨q, hqe⟩ := Int.eq_ofNat_of_zero_le hq0
      refine TnD.next F (fun _ kZ => kZ l1 l2 l3 tr l4 (cur ++ [max x1 x2 + q]) _ n23 rfl ?_ (by rw [List.length_append, hcl]; rfl) ?_ ?_ ?_)
      · rw [List.map_append]
        refine hci.append ?_
        rw [hqe]
        have : (max (x1 : Int) x2 + (q : Int)) = ((max x1 x2 + q : Nat) : Int) := by (first | lia | omega)
        rw [this]
        exact .cons _ _ .nil
      · refine List.pairwise_append.mpr ⟨hcp, List.pairwise_singleton _ _, fun a ha b hb => ?_⟩
        rw [List.mem_singleton.mp hb]
        have := hx1 a ha
        (first | lia | omega)
      · intro y hy
        rcases List.mem_append.mp hy with hy | hy
        · have := hcb y hy; (first | lia | omega)
        · rw [List.mem_singleton.mp hy]
          have hq3 : (z.fdiv ((3 * i + j + 1 : Nat) : Int)).fmod 3 < 3 := Int.fmod_lt_of_pos _ (by decide)
          (first | lia | omega)
      · intro p hp0 hp j' x y hx hy
        by_cases hjl : j' < cur.length
        · rw [List.getElem?_append_left hjl] at hy
          exact hcc p hp0 hp j' x y hx hy
        · rw [List.getElem?_append_right (by (first | lia | omega))] at hy
          have h0 : j' - cur.length = 0 := by
            have := (List.getElem?_eq_some_iff.mp hy).1
            simp at this
            (first | lia | omega)
          rw [h0] at hy
          cases hy
          have : j' = j := by (first | lia | omega)
          subst this
          have := hx2 p hp0 hp x hx
          (first | lia | omega)
    · rintro l N h8 tkj8 tk8 t8 t9 hJJ F
      refine hJJ _ fun l1 l2 l3 tr l4 cur cvs n2 hN hci hcl hcp hcb hcc => ?_
      replace F := F.eqN hN
      try dsimp only
      walk_at "gs"
      refine wpAny_Expr_any ?_
      refine MethodCall_ ?_
      walk_at "gs"
      refine mth_append (F.of (q := (ga, lisO (Rs.map fun q => .ref q.1) n)) (by walk_at "mm")) ?_
      refine cw1 ?_
      walk_at "gs"
      have hRl : Rs.length = i := by rw [X.length, hrl2]
      refine appL ((F.perm (List.perm_middle (l₁ := (la, lisO cvs n2) :: Is))) ) (by rw [List.length_map]; exact Nat.le_trans (show Rs.length ≤ 3 by (first | lia | omega)) (by decide)) fun h23 n23 F => ?_
      walk_at "gs"
      refine TnD.next (Is := Is) (N := (ga, lisO ((Rs ++ [(la, lisO cvs n2)]).map fun q => .ref q.1) n23) :: (Rs ++ [(la, lisO cvs n2)])) (F.perm ?_) (fun _ kZ => kZ l1 l2 (rows ++ [cur]) (Rs ++ [(la, lisO cvs n2)]) n23 rfl (X.snoc (IsLst.of _ _) hci) ?_ ⟨?_, ?_⟩ ?_)
      · rw [List.map_append]
        refine (List.Perm.trans ?_ List.perm_middle.symm)
        refine List.Perm.cons _ ?_
        rw [← List.append_assoc]
        exact (List.perm_append_singleton _ _).symm
      · rw [List.map_append, hrl, List.take_add_one, hd', ← hcl]; rfl
      · intro r hr
        rcases List.mem_append.mp hr with hr | hr
        · exact hM.1 r hr
        · rw [List.mem_singleton.mp hr]; exact hcp
      · intro i' p q hp hq j' x y hx hy
        by_cases hil : i' + 1 < rows.length
        · rw [List.getElem?_append_left hil] at hq
          rw [List.getElem?_append_left (by (first | lia | omega))] at hp
          exact hM.2 i' p q hp hq j' x y hx hy
        · rw [List.getElem?_append_right (by (first | lia | omega))] at hq
          have h0 : i' + 1 - rows.length = 0 := by
            have := (List.getElem?_eq_some_iff.mp hq).1
            simp at this
            (first | lia | omega)
          rw [h0] at hq
          cases hq
          rw [List.getElem?_append_left (by (first | lia | omega))] at hp
          exact hcc p (by (first | lia | omega)) (by rw [show i - 1 = i' by (first | lia | omega)]; exact hp) j' x y hx hy
      · intro r hr x hx
        rcases List.mem_append.mp hr with hr | hr
        · have := hBd r hr x hx; (first | lia | omega)
        · rw [List.mem_singleton.mp hr] at hx
          have := hcb x hx; (first | lia | omega)
  · rintro l N h8 tkj8 tk8 t8 t9 hJJ F
    refine hJJ _ fun l1 l2 rows Rs n hN X hrl hM hBd => ?_
    replace F := F.eqN hN
    try dsimp only
    walk_at "gs"
    refine H _ _ _ (by (first | lia | omega)) (fun b o _ => F.keep b o) ⟨ga, rows, rfl, ?_, ?_, hM, fun r hr x hx => Nat.le_trans (hBd r hr x hx) (by have := hs.2.1; (first | lia | omega))⟩
    · have c := F.led _ (.head _)
      refine .list (o := lisO (Rs.map fun q => .ref q.1) n) ⟨c.2.2, c.1⟩ (IsLst.of _ _) (X.ra fun q hq => ?_)
      have c := F.led q (.tail _ hq)
      exact ⟨c.2.2, c.1⟩
    · rw [hrl, hle, List.take_length]
end
noncomputable abbrev sh (ss : List Nat) : Nat → Nat := fun i => ss.getD i 0
noncomputable def rowsOf (s : Nat → Nat) (R : Nat) (g : Grd) : List (List Nat) := (List.range R).map (rowL s g)
/-- a grid that stands in the ledger -/
noncomputable def GrN (ga : Addr) (n : Nat) (s : Nat → Nat) (R : Nat) (g : Grd) (N : Ld) : Prop := ∃ Rs : Ld, N = (ga, lisO (Rs.map fun q => .ref q.1) n) :: Rs ∧ RowsAre Rs (rowsOf s R g)
theorem rowsOf_get {s : Nat → Nat} {R : Nat} {g : Grd} {i : Nat} (h : i < R) : (rowsOf s R g)[i]? = some (rowL s g i) := by simp [rowsOf, h]
theorem rowsOf_set {s : Nat → Nat} {R : Nat} {g g' : Grd} {i : Nat} {r : List Nat} (h1 : rowL s g' i = r) (h2 : ∀ a, a ≠ i → rowL s g' a = rowL s g a) : (rowsOf s R g).set i r = rowsOf s R g' := by
  apply List.ext_getElem?
  intro k
  rw [List.getElem?_set]
  by_cases h : i = k
  · subst h
    by_cases hk : i < R
    · simp [rowsOf, hk, h1]
    · simp [rowsOf, hk]
  · rw [if_neg h]
    by_cases hk : k < R
    · simp [rowsOf, hk, h2 k (fun z => h z.symm)]
    · simp [rowsOf, hk]
theorem rowL_len (s : Nat → Nat) (g : Grd) (i : Nat) : (rowL s g i).length = s i := by simp [rowL]
theorem GrN.get {ga : Addr} {n : Nat} {s : Nat → Nat} {R : Nat} {g : Grd} {N : Ld} (X : GrN ga n s R g N) {i : Nat} (hi : i < R) :
    ∃ Rs : Ld, ∃ a o vs, N = (ga, lisO (Rs.map fun q => .ref q.1) n) :: Rs ∧ Rs.length = R ∧ (Rs.map fun q => Value.ref q.1)[i]? = some (.ref a) ∧ Rs[i]? = some (a, o) ∧ IsLst o vs ∧ IntsAre vs ((rowL s g i).map fun d : Nat => (d : Int)) ∧ vs.length = s i ∧
      ∀ j, j < s i → ∃ t, vs[j]? = some (.int (g i j : Nat) t) := by
  obtain ⟨Rs, rfl, X⟩ := X
  obtain ⟨a, o, vs, h1, h2, h3⟩ := X.get (rowsOf_get hi)
  refine ⟨Rs, a, o, vs, rfl, by rw [X.length]; simp [rowsOf], by rw [List.getElem?_map, h1]; rfl, h1, h2, h3, by rw [h3.length, List.length_map, rowL_len], fun j hj => ?_⟩
  exact ints_get h3 (rowL_get s g hj)
section
variable {prog : Program} {w : World} {A : Around} {s₀ : Shared} {g h h' : Heap} {tk : Nat} {L a : Addr} {l : List (Str × Value)} {N : Ld} {o o' : Obj}
theorem set_map {Rs : Ld} {i : Nat} (h : Rs[i]? = some (a, o)) : (Rs.set i (a, o')).map (fun q => Value.ref q.1) = Rs.map fun q => .ref q.1 := by
  apply List.ext_getElem?
  intro k
  rw [List.getElem?_map, List.getElem?_map, List.getElem?_set]
  by_cases hk : i = k
  · subst hk
    rw [h, if_pos rfl, if_pos (List.getElem?_eq_some_iff.mp h).1]; rfl
  · rw [if_neg hk]
/-- a box of the grid has changed -/
theorem GrN.upd {ga : Addr} {n : Nat} {s : Nat → Nat} {R : Nat} {gr gr' : Grd} {Rs Pre : Ld} {i j v : Nat} {t : Tok} {vs : List Value} (X : GrN ga n s R gr ((ga, lisO (Rs.map fun q => .ref q.1) n) :: Rs)) (hR : Rs[i]? = some (a, o)) (hv : IntsAre vs ((rowL s gr i).map fun d : Nat => (d : Int)))
    (h1 : rowL s gr' i = (rowL s gr i).set j v) (h2 : ∀ b, b ≠ i → rowL s gr' b = rowL s gr b) (F : Fm g L l (Pre ++ (ga, lisO (Rs.map fun q => .ref q.1) n) :: Rs) h) (kx : KpX [a] h h') (e : h'.get? a = some o') (hl : IsLst o' (vs.set j (.int (v : Int) t))) :
    ∃ N', GrN ga n s R gr' N' ∧ Fm g L l (Pre ++ N') h' := by
  obtain ⟨Rs', hq, X⟩ := X
  have hRs : Rs = Rs' := (List.cons.inj hq).2
  subst hRs
  have hk : (Pre ++ (ga, lisO (Rs.map fun q => .ref q.1) n) :: Rs)[Pre.length + 1 + i]? = some (a, o) := by
    rw [List.getElem?_append_right (by (first | lia | omega)), show Pre.length + 1 + i - Pre.length = i + 1 by (first | lia | omega), List.getElem?_cons_succ]; exact hR
  have F' := F.setIdx (Pre.length + 1 + i) hk kx e
  rw [List.set_append_right _ _ (by (first | lia | omega)), show Pre.length + 1 + i - Pre.length = i + 1 by (first | lia | omega), List.set_cons_succ] at F'
  refine ⟨_, ⟨Rs.set i (a, o'), ?_, ?_⟩, F'⟩
  · rw [set_map hR]
  · rw [← rowsOf_set h1 h2]
    refine X.set hl ?_
    have := (RA.ints (H := fun _ _ => True) (B := 0) hv).set j (v := .int (v : Int) t) (d := .int v) (.int _ _)
    refine RA.toInts (H := fun _ _ => True) (B := 0) ?_
    simpa [List.map_set] using this
noncomputable def MidF {α : Type} (g : Heap) (L : Addr) (l : List (Str × Value)) (N : Ld) (R : α → Prop) (s₀ : Shared) (tk : Nat) (v : α) (s : Shared) : Prop := ∃ h' tk', s = St s₀ h' tk' ∧ tk ≤ tk' ∧ Fm g L l N h' ∧ R v
theorem MidF.mk {α : Type} {R : α → Prop} {v : α} {tk' : Nat} (t : tk ≤ tk') (F : Fm g L l N h) (r : R v) : MidF g L l N R s₀ tk v (St s₀ h tk') := ⟨h, tk', rfl, t, F, r⟩
/-- a value is told by a word; objects may have been made -/
theorem midFe {α : Type} {M : Model} {t : Sem α} {Q : α → Shared → Prop} {N : Ld} (_F : Fm g L l N h) (v₀ : α) (H : wpAny M A t (MidF g L l N (· = v₀) s₀ tk) No (St s₀ h tk))
    (K : ∀ h' tk', tk ≤ tk' → Fm g L l N h' → Q v₀ (St s₀ h' tk')) : wpAny M A t Q No (St s₀ h tk) :=
  wpAny_mono H (fun v s q => by obtain ⟨h', tk', rfl, h1, F, rfl⟩ := q; exact K h' tk' h1 F) fun _ _ q => q.elim
theorem midF {α : Type} {M : Model} {t : Sem α} {Q : α → Shared → Prop} {N : Ld} (_F : Fm g L l N h) (R : α → Prop) (H : wpAny M A t (MidF g L l N R s₀ tk) No (St s₀ h tk))
    (K : ∀ v h' tk', tk ≤ tk' → Fm g L l N h' → R v → Q v (St s₀ h' tk')) : wpAny M A t Q No (St s₀ h tk) :=
  wpAny_mono H (fun v s q => by obtain ⟨h', tk', rfl, h1, F, h2⟩ := q; exact K v h' tk' h1 F h2) fun _ _ q => q.elim
end
theorem ra_strs {H H' : Addr → Obj → Prop} {B : Nat} {ws : List Value} {xs : List Str} (R : RA H B ws (xs.map Dat.str)) : RA H' B ws (xs.map Dat.str) := by
  induction xs generalizing ws with
  | nil => cases R; exact .nil
  | cons x xs ih =>
    cases R with
    | cons h r => cases h with
      | str _ t h1 h2 => exact .cons (.str x t h1 h2) (ih r)
theorem ss_map (ss : List Nat) : (List.range ss.length).map (sh ss) = ss := by
  apply List.ext_getElem?
  intro k
  by_cases hk : k < ss.length <;> simp [sh, hk]
theorem dep_len (ss : List Nat) (c : Nat) : (ss.filter (fun s => decide (c < s))).length = dep (sh ss) ss.length c := by
  conv => lhs; rw [← ss_map ss]
  rw [List.filter_map, List.length_map]; rfl
theorem Shp.sh {ss : List Nat} (S : Shp ss) : Sh (sh ss) ss.length := by
  obtain ⟨h1, h2, h3, h4⟩ := S
  match ss, h1, h2, h3, h4 with
  | [a], _, _, h3, _ =>
    have := h3 a (by simp)
    refine ⟨fun i => ?_, fun i hi => ?_, fun i hi => ?_, by simp [Mine.sh]; (first | lia | omega), by simp⟩
    · match i with
      | 0 => simp [Mine.sh]
      | i + 1 => simp [Mine.sh]
    · match i, hi with
      | i + 1, _ => simp [Mine.sh]
    · match i, hi with
      | 0, _ => simp [Mine.sh]; (first | lia | omega)
  | [a, b], _, _, h3, h4 =>
    have := h3 a (by simp)
    have := h3 b (by simp)
    simp at h4
    refine ⟨fun i => ?_, fun i hi => ?_, fun i hi => ?_, by simp [Mine.sh]; (first | lia | omega), by simp⟩
    · match i with
      | 0 => simp [Mine.sh]; (first | lia | omega)
      | 1 => simp [Mine.sh]
      | i + 2 => simp [Mine.sh]
    · match i, hi with
      | i + 2, _ => simp [Mine.sh]
    · match i, hi with
      | 0, _ => simp [Mine.sh]; (first | lia | omega)
      | 1, _ => simp [Mine.sh]; (first | lia | omega)
  | [a, b, c], _, _, h3, h4 =>
    have := h3 a (by simp)
    have := h3 b (by simp)
    have := h3 c (by simp)
    simp at h4
    refine ⟨fun i => ?_, fun i hi => ?_, fun i hi => ?_, by simp [Mine.sh]; (first | lia | omega), by simp⟩
    · match i with
      | 0 => simp [Mine.sh]; (first | lia | omega)
      | 1 => simp [Mine.sh]; (first | lia | omega)
      | 2 => simp [Mine.sh]
      | i + 3 => simp [Mine.sh]
    · match i, hi with
      | i + 3, _ => simp [Mine.sh]
    · match i, hi with
      | 0, _ => simp [Mine.sh]; (first | lia | omega)
      | 1, _ => simp [Mine.sh]; (first | lia | omega)
      | 2, _ => simp [Mine.sh]; (first | lia | omega)
section
variable {prog : Program} {w : World} {A : Around} {s₀ : Shared} {g h h' : Heap} {tk : Nat} {L a : Addr} {l : List (Str × Value)} {N : Ld} {o o' oa : Obj} {env : Env} {pos pf : Pos}
  {loose : List Str} {mean : ExcName → Option Value} {mg mb : Str → Option Value}
noncomputable def WhD (Q : Flow → Shared → Prop) (s₀ : Shared) (g : Heap) (L : Addr) (J : List (Str × Value) → Ld → Nat → Prop) (f : Flow) (s' : Shared) : Prop := match f with
  | .ret r => Q (.ret r) s'
  | .brk => Q .next s'
  | _ => ∃ l N h tk, s' = St s₀ h tk ∧ Fm g L l N h ∧ J l N tk
theorem WhD.next {Q : Flow → Shared → Prop} {J : List (Str × Value) → Ld → Nat → Prop} (F : Fm g L l N h) (j : J l N tk) : WhD Q s₀ g L J .next (St s₀ h tk) := ⟨l, N, h, tk, rfl, F, j⟩
/-- a while, by what holds between its turns and a measure -/
theorem whileD {Q : Flow → Shared → Prop} {test : Expr} {body : List Stmt} (J : Nat → List (Str × Value) → Ld → Nat → Prop) {n₀ : Nat} (F : Fm g env.locals l N h) (hj : J n₀ l N tk)
    (turn : ∀ n l N h tk' Q', Le (fun b s₂ => if b = true then ∀ Q₂, Le (WhD Q s₀ g env.locals (fun l N tk => ∃ m, m < n ∧ J m l N tk)) Q₂ → wpAny (model prog w) A (execs body env) Q₂ No s₂ else Q .next s₂) Q' → tk ≤ tk' → J n l N tk' → Fm g env.locals l N h →
      wpAny (model prog w) A (isTrue test env (eval test env)) Q' No (St s₀ h tk')) :
    wpAny (model prog w) A (exec (.While test body [] pos) env) Q No (St s₀ h tk) := by
  refine wpAny_While (codeAny_whileLoop (fun n s' => ∃ l N h tk', s' = St s₀ h tk' ∧ tk ≤ tk' ∧ Fm g env.locals l N h ∧ J n l N tk') ?_ n₀ ⟨l, N, h, tk, rfl, Nat.le_refl _, F, hj⟩)
  rintro n s' ⟨l, N, h, tk', rfl, ht, F, hj⟩
  refine wpAny_mono (wpAny_toks_of (n := tk' + 1) (Nat.le_refl _) (turn n l N h tk' _ (fun _ _ q => q) ht hj F)) (fun b s₂ q => ?_) fun _ _ q => q.2.elim
  obtain ⟨qt, q⟩ := q
  cases b with
  | false => exact wpAny_execs_nil q
  | true =>
    refine wpAny_mono (wpAny_toks_of (n := tk' + 1) qt (q _ fun _ _ q => q)) (fun f s₃ q => ?_) fun _ _ q => q.2.elim
    obtain ⟨qt, q⟩ := q
    have go : (∃ l N h tk, s₃ = St s₀ h tk ∧ Fm g env.locals l N h ∧ ∃ m, m < n ∧ J m l N tk) → ∃ m, m < n ∧ ∃ l N h tk', s₃ = St s₀ h tk' ∧ tk ≤ tk' ∧ Fm g env.locals l N h ∧ J m l N tk' := by
      rintro ⟨l, N, h, tk2, rfl, F2, m, hm, j2⟩
      have : tk' + 1 ≤ tk2 + 1 := qt
      exact ⟨m, hm, l, N, h, tk2, rfl, by (first | lia | omega), F2, j2⟩
    cases f with
    | ret r => exact q
    | brk => exact q
    | next => exact go q
    | cont => exact go q
/-- an object at the head has changed, and one was made -/
theorem Fm.updNew (F : Fm g L l ((a, o) :: N) h) (k : KpX [a] h h') (e : h'.get? a = some o') {b : Addr} (nb : New h h' b oa) : Fm g L l ((b, oa) :: (a, o') :: N) h' := by
  have F' := F.updX k e
  refine ⟨F'.ns, F'.keep, F'.Lg, fun q hq => ?_, ?_⟩
  · rcases List.mem_cons.mp hq with rfl | hq
    · exact ⟨nb.2, F.Lne nb.1, F.gnone nb.1⟩
    · exact F'.led q hq
  · rw [List.map_cons]
    refine List.nodup_cons.mpr ⟨fun hm => ?_, F'.nd⟩
    rcases List.mem_cons.mp hm with e2 | hm
    · have e2 : b = a := e2
      have e3 : h.get? a = some o := F.of (.head _)
      rw [← e2, nb.1] at e3; cases e3
    · obtain ⟨q, hq, e2⟩ := List.mem_map.mp hm
      have e3 : h.get? q.1 = some q.2 := F.of (.tail _ hq)
      have e2 : q.1 = b := e2
      rw [e2, nb.1] at e3; cases e3
/-- a call of a class of the top by its name, without arguments -/
theorem callN0 {Q : Value → Shared → Prop} {f : Str} {b : Addr} (F : Fm g env.locals l N h) (G : Gd w loose mean mg mb g) (hm : mg f = some (.ref b)) (hki : keepIn (hd.heap_1 w.params) (.ref b) = true)
    (H : wpAny (model MP w) A (call (.ref b) ([] ++ [])) Q No (St s₀ h tk))
    (he : eval (.Call (.Name f pf) [] [] pos) env = (do callWith pos (← eval (.Name f pf) env) [] (backTo pos (starEach [] env)) (backToKw pos (keywordEach [] env))) := by exact call_eq)
    (hk : env.scope.kind = .function := by rfl) (hx : env.kindOf f = some .globalImplicit := by rfl) (hg : env.globals = mainGlobals := by rfl) (hd : (f == ("__debug__" : Str)) = false := by decide) :
    wpAny (model MP w) A (eval (.Call (.Name f pf) [] [] pos) env) Q No (St s₀ h tk) := by
  refine Call_ (gl F G hm ?_ hk hx hg hd) he
  exact callWith_K0 (s := St s₀ h tk) (G.K.keeps F.keep) hki H
end
section
variable {prog : Program} {w : World} {A : Around} {s₀ : Shared} {h g : Heap} {tk : Nat} {l : List (Str × Value)} {N : Ld} {env : Env} {x y : Str} {px py tp : Pos} {v : Value} {c cx cy : Addr} {o : Obj}
noncomputable def IsCell (o : Obj) : Prop := ∃ v, o.data = .cell v
/-- x = v, x a cell at the ledger's head -/
theorem asC {Q : Unit → Shared → Prop} (hc : env.cells.lookup x = some c) (F : Fm g env.locals l ((c, o) :: N) h) (hd : IsCell o) (H : ∀ h' o', o'.data = .cell (some v) → Fm g env.locals l ((c, o') :: N) h' → Q () (St s₀ h' tk)) (hk : env.scope.kind = .function := by rfl) (hx : env.kindOf x = some .cell := by rfl) :
    wpAny (model prog w) A (assign (.Name x px) env v) Q No (St s₀ h tk) := by
  obtain ⟨v₀, hd⟩ := hd
  exact wpAny_assign_Name (stC hc F hd H hk hx)
/-- x, y = a pair, x and y cells at the ledger's head -/
theorem asPC {Q : Unit → Shared → Prop} {k n : Nat} {a : Addr} {v1 v2 : Value} {ox oy : Obj} (hh : A.handled = none) (hcx : env.cells.lookup x = some cx) (hcy : env.cells.lookup y = some cy) (F : Fm g env.locals l ((cx, ox) :: (cy, oy) :: N) h) (dx : IsCell ox) (dy : IsCell oy) (e : h.get? a = some (tupO [v1, v2] n))
    (H : ∀ h' ox' oy', ox'.data = .cell (some v1) → oy'.data = .cell (some v2) → Fm g env.locals l ((cx, ox') :: (cy, oy') :: N) h' → Q () (St s₀ h' tk)) (hk : env.scope.kind = .function := by rfl) (hx : env.kindOf x = some .cell := by rfl) (hy : env.kindOf y = some .cell := by rfl) :
    wpAny (model prog w) A (assign (.Tuple [.Name x px, .Name y py] k tp) env (.ref a)) Q No (St s₀ h tk) := by
  rw [assign_Tuple]
  refine wpAny_bind (wpAny_standAt ?_)
  show wpAny _ A (unpack (.ref a) [(false, assign (.Name x px) env), (false, assign (.Name y py) env)]) _ No _
  unfold unpack
  refine wpAny_bind (wpAny_holding ?_)
  show wpAny _ A (unpackItems (.ref a) 2 none) _ No _
  refine unp F hh e 2 rfl fun h₂ _ F₂ => ?_
  refine aio_cons (asC hcx F₂ dx (fun h₃ ox' d' F₃ => ?_) hk hx)
  refine aio_cons (asC hcy (F₃.perm (List.Perm.swap ..)) dy (fun h₄ oy' d'' F₄ => aio_nil ?_) hk hy)
  exact H h₄ ox' oy' d' d'' (F₄.perm (List.Perm.swap ..))
noncomputable def RgC (I c : Addr) (a d : Int) (n : Nat) (i : Nat) (Is : Ld) : Prop := ∃ o, Is = [(I, { cls := .type "range_iterator", dict := none, data := .fields #[rawInt (a + i * d), rawInt ((n : Int) - i), rawInt d], slots := #[] }), (c, o)] ∧ IsCell o ∧ ∀ i', i = i' + 1 → ∃ t, o.data = .cell (some (.int (a + i' * d) t))
/-- a range, drawn into a cell -/
theorem Dr.rangeC {I c : Addr} {a d : Int} {n : Nat} (hc : env.cells.lookup x = some c) (hh : A.handled = none) (hk : env.scope.kind = .function := by rfl) (hx : env.kindOf x = some .cell := by rfl) :
    Dr prog w A env (.Name x px) (.ref I) n (fun _ b => b = []) (RgC I c a d n) [] where
  next := fun g s₀ i Is l N h tk Q hi hs hsrc F H => by
    obtain ⟨o, rfl, hd, _⟩ := hs
    refine wpAny_pyNext_range_item (s := St s₀ h tk) (F.led _ (.head _)).1 (by (first | lia | omega)) fun h' hit' hs' => ?_
    refine wpAny_pure ?_
    have e1 : a + (i : Int) * d + d = a + ((i + 1 : Nat) : Int) * d := by push_cast; rw [Int.add_mul]; (first | lia | omega)
    have e2 : (n : Int) - i - 1 = (n : Int) - ((i + 1 : Nat) : Int) := by push_cast; (first | lia | omega)
    rw [e1, e2] at hit'
    have F' := (F.upd hs' hit').perm (List.Perm.swap _ _ _)
    exact asC (tk := tk + 1) hc F' hd (fun h₂ o' d' F₂ => H [] [_, (c, o')] h₂ (tk + 1) (by (first | lia | omega)) rfl ⟨o', rfl, ⟨_, d'⟩, fun i' e => by
      obtain rfl : i = i' := by (first | lia | omega)
      exact ⟨_, d'⟩⟩ (F₂.perm (List.Perm.swap _ _ _))) hk hx
  done := fun g s₀ Is l N h tk Q hs hsrc F H => by
    obtain ⟨o, rfl, _⟩ := hs
    exact wpAny_pyNext_range_end (s := St s₀ h tk) hh (F.led _ (.head _)).1 (by (first | lia | omega)) fun h' he => H h' tk (Nat.le_refl _) ((fm_out F fun b o hb e => he b o (by simpa using hb) e).sub (List.sublist_cons_self _ _))
  self := fun g s₀ i Is l N h tk Q hs F H => by
    obtain ⟨o, rfl, _⟩ := hs
    exact wpAny_pyIter_rangeiter (s := St s₀ h tk) (F.led _ (.head _)).1 H
noncomputable def LpC (I ax cx cy : Addr) (items : List Value) (src : Ld) (i : Nat) (Is : Ld) : Prop := ∃ o ox oy, Is = [(I, o), (cx, ox), (cy, oy)] ∧ o.cls = .type "list_iterator" ∧ o.data = .fields #[.ref ax, .int i 0] ∧ IsCell ox ∧ IsCell oy ∧
  ∀ i', i = i' + 1 → ∃ a n v1 v2, items[i']? = some (.ref a) ∧ (a, tupO [v1, v2] n) ∈ src ∧ ox.data = .cell (some v1) ∧ oy.data = .cell (some v2)
/-- a list of pairs, drawn into two cells -/
theorem Dr.pairsC {I ax : Addr} {k : Nat} {lo : Obj} {items : List Value} (hlo : IsLst lo items) (hcx : env.cells.lookup x = some cx) (hcy : env.cells.lookup y = some cy) (hh : A.handled = none) (src : Ld) (hit : ∀ (i : Nat) v, items[i]? = some v → ∃ a n v1 v2, v = .ref a ∧ (a, tupO [v1, v2] n) ∈ src)
    (hk : env.scope.kind = .function := by rfl) (hx : env.kindOf x = some .cell := by rfl) (hy : env.kindOf y = some .cell := by rfl) :
    Dr prog w A env (.Tuple [.Name x px, .Name y py] k tp) (.ref I) items.length (fun _ b => b = []) (LpC I ax cx cy items src) ((ax, lo) :: src) where
  next := fun g s₀ i Is l N h tk Q hi hs hsrc F H => by
    obtain ⟨o, ox, oy, rfl, o1, o2, dx, dy, _⟩ := hs
    have hl : (St s₀ h tk).heap.IsList ax items.toArray := hlo.is (F.at (kn_app (hsrc _ (.head _))))
    obtain ⟨a, n, v1, v2, e, hm⟩ := hit i items[i] (by simp [hi])
    have hI : h.IsListIter I ax i := ⟨o, (F.led _ (.head _)).1, o1, o2⟩
    refine wpAny_pyNext_list_item (x := items[i]) hI hl (by simp [hi]) fun h' hit' hs' => ?_
    obtain ⟨o', e1, e2, e3⟩ := id hit'
    have F' := F.upd hs' e1
    show wpAny _ A (letOwnedTupleGo _ _ items[i]) _ No _
    rw [e]
    refine wpAny_letOwnedTupleGo_listiter hit' ?_
    show wpAny _ A (assign _ env (.ref a)) _ No (St s₀ h' tk)
    have F2 : Fm g env.locals l ((cx, ox) :: (cy, oy) :: (I, o') :: N) h' := F'.perm ((List.Perm.swap _ _ _).trans (List.Perm.cons _ (List.Perm.swap _ _ _)))
    refine asPC hh hcx hcy F2 dx dy (F'.at (kn_app (Is := [(I, o'), (cx, ox), (cy, oy)]) (hsrc _ (.tail _ hm)))) (fun h₂ ox' oy' d1 d2 F₂ => ?_) hk hx hy
    refine H [] [(I, o'), (cx, ox'), (cy, oy')] h₂ tk (Nat.le_refl _) rfl ⟨o', ox', oy', rfl, e2, e3, ⟨_, d1⟩, ⟨_, d2⟩, fun i' e' => ?_⟩ (F₂.perm ((List.Perm.cons _ (List.Perm.swap _ _ _)).trans (List.Perm.swap _ _ _)))
    obtain rfl : i = i' := by (first | lia | omega)
    exact ⟨a, n, v1, v2, by rw [← e]; simp [hi], hm, d1, d2⟩
  done := fun g s₀ Is l N h tk Q hs hsrc F H => by
    obtain ⟨o, ox, oy, rfl, o1, o2, _⟩ := hs
    have hl : (St s₀ h tk).heap.IsList ax items.toArray := hlo.is (F.at (kn_app (hsrc _ (.head _))))
    exact wpAny_pyNext_list_end hh (⟨o, (F.led _ (.head _)).1, o1, o2⟩ : h.IsListIter I ax items.length) hl (by simp) fun h' he => H h' tk (Nat.le_refl _)
      (((fm_out F fun b o hb e => he b o (by simpa using hb) e).sub (List.sublist_cons_self _ _)).sub (List.sublist_cons_self _ _))
  self := fun g s₀ i Is l N h tk Q hs F H => by
    obtain ⟨o, ox, oy, rfl, o1, o2, _⟩ := hs
    exact wpAny_pyIter_listiter (s := St s₀ h tk) (⟨o, (F.led _ (.head _)).1, o1, o2⟩ : h.IsListIter I ax i) H
end
section
variable {w : World} {loose : List Str} {mean : ExcName → Option Value} {mg mb : Str → Option Value} {h : Heap} {tk : Nat}
theorem rows_zero (ss : List Nat) : rowsOf (sh ss) ss.length (fun _ _ => 0) = ss.map fun s => List.replicate s 0 := by
  apply List.ext_getElem?
  intro k
  by_cases hk : k < ss.length
  · simp [rowsOf, rowL, hk, sh]
    apply List.ext_getElem?
    intro j
    by_cases hj : j < ss[k] <;> simp [hj]
  · simp [rowsOf, hk]
theorem t_put (G : Gd w loose mean mg mb h) {B : Nat} {ax x lx : Addr} {o : Obj} {vs : List Value} {ss : List Nat} {ops : List (Nat × Nat)} {gf : Grd} (el : h.get? ax = some o) (hl : IsLst o vs) (hi : IntsAre vs (ss.map fun d : Nat => (d : Int))) (hs : Shp ss)
    (hb : Bag h B x lx ops) (hB : B ≤ tk) (hz : ops.length < 1000) (P : Puts (sh ss) (fun _ _ => 0) (opR (sh ss) (fun r c => ops.count (r, c)) ss.length) gf) :
    Fn w (.ref 299) [.ref ax, .ref x] 12 120 [] h tk (fun r h' _ => ∃ a, r = .ref a ∧ RD (New h h') 0 (.ref a) (gD (rowsOf (sh ss) ss.length gf))) := by
  intro dp un fr gd s₀ Q hd hu H
  have S := hs.sh
  have hle : vs.length = ss.length := by rw [hi.length, List.length_map]
  have hR3 : ss.length ≤ 3 := hs.2.1
  have hss : ∀ i, i < ss.length → ss[i]? = some (sh ss i) := fun i h => by simp [sh, h]
  have hsv : ∀ i, i < ss.length → ∃ t, vs[i]? = some (.int (sh ss i : Nat) t) := fun i h => ints_get hi (hss i h)
  refine enterP (by assumption) (by rfl) (by rfl) (by (first | lia | omega)) (by rfl) (by rfl) ?_ (by rfl) (by rfl) (by rfl) (by decide)
  intro fr' L h₁ tk₁ t₁ F
  walk_at "g"
  refine compA (cl := []) ?_ (by rfl)
  walk_at "gs"
  refine itrL (F.keep _ _ el) hl fun I h3 k3 n3 s3 => ?_
  have G1 := G.keeps F.keep
  refine comp1 (fun i ws N _ => ws = N.map (fun q => .ref q.1) ∧ ws.length = i ∧ RowsAre N ((ss.take i).map fun s => List.replicate s 0)) F k3 n3 s3 (fun C => Dr.list hl rfl) (fun q hq => by rw [List.mem_singleton.mp hq]; exact F.keep _ _ el) ⟨rfl, rfl, .nil⟩ ?_ ?_
  · rintro C D i b l ws m N Is h₃ tkj tk₃ hi' hbI t4 t5 ⟨hws, hwl, X⟩ F₃
    refine drV hbI F₃ fun v hv F₃ => ?_
    refine wpAny_tests_nil ?_
    refine iteT rfl ?_
    obtain ⟨tv, hvd⟩ := hsv i (by (first | lia | omega))
    replace F₃ := F₃.val (Option.some.inj (hv.symm.trans hvd))
    have h3 := S.le3 i
    walk_at "g"
    refine List_ ?_
    refine spliced_more ?_ (by rfl)
    refine ci fun tz tkz hz => ?_
    walk_at "gs"
    refine mkL F₃ (by show 1 ≤ sizeLine; decide) fun zx h5 _ _ F => ?_
    walk_at "gs"
    refine r_rep1 F (F.of (.head _)) (by (first | lia | omega)) (by (first | lia | omega)) fun rr oo h6 hlo F => ?_
    replace F := F.drop 1
    simp only [List.eraseIdx] at F
    refine CE.mk (N := N ++ [(rr, oo)]) (by (first | lia | omega)) (F.perm ?_) (Nat.le_trans (show ws.length ≤ 3 by (first | lia | omega)) (by decide)) ⟨by rw [List.map_append, hws]; rfl, by rw [List.length_append, hwl]; rfl, ?_⟩
    · refine (List.Perm.swap _ _ _).trans (List.Perm.cons _ ?_)
      rw [← List.append_assoc]
      exact (List.perm_append_singleton _ _).symm
    · rw [List.take_add_one, hss i (by (first | lia | omega)), List.map_append]
      refine X.snoc hlo ?_
      have : ∀ k : Nat, IntsAre (List.replicate k (.int 0 tz)) ((List.replicate k 0).map fun d : Nat => (d : Int)) := by
        intro k
        induction k with
        | zero => exact .nil
        | succ k ih => rw [List.replicate_succ, List.replicate_succ, List.map_cons]; exact .cons _ _ ih
      rw [Int.toNat_natCast]
      exact this _
  · rintro C D l' ws m N' h₃ tkj tk₃ t4 t5 ⟨hws, hwl, X⟩ F₃
    refine postA F F₃ fun h4 tk4 t6 F => ?_
    have GX : GrN D m (sh ss) ss.length (fun _ _ => 0) ((D, lisO ws m) :: N') := ⟨N', by rw [hws], by rw [rows_zero, ← List.take_length (l := ss), List.map_take, ← List.map_take, ← hle]; exact X⟩
    replace F : Fm h L _ ((D, lisO ws m) :: N') h4 := F
    generalize hN : (D, lisO ws m) :: N' = N0 at F GX
    walk_at "gs"
    refine wpAny_For ?_ (by intro _; rfl)
    refine callT F G (bn_range G) bv_range ?_
    walk_at "gs"
    refine callB F G (bn_len G) bv_len ?_
    walk_at "gs"
    refine lenL (F.keep _ _ el) hl (by (first | lia | omega)) fun t7 tk7 t8 => ?_
    walk_at "gs"
    refine rg3 (by (first | lia | omega)) fun r h9 k9 n9 => ?_
    refine itrD (n := ss.length) n9.2 (by (first | lia | omega)) (by (first | lia | omega)) fun I2 h10 k10 n10 s10 => ?_
    replace F := (F.kp k9).its k10 n10
    refine forD (src := []) (fun k l N _ => ∀ G : Prop, (lk l "grid" = some (.ref D) → lk l "sizes" = some (.ref ax) → lk l "bag" = some (.ref x) → ∀ g, GrN D m (sh ss) ss.length g N → Puts (sh ss) g (opR (sh ss) (fun r c => ops.count (r, c)) (ss.length - k)) gf → G) → G)
      (Dr.range rfl) F s10 (fun _ kZ => kZ rfl rfl rfl _ GX P) (fun _ _ _ _ _ q hq => nomatch hq) ?_ ?_
    · rintro k b l N Is h11 tkj tk11 _ _ hk hbI hS t10 t11 hJJ F
      refine drT hbI F fun tb F => ?_
      refine hJJ _ fun l1 l2 l3 g GX P => ?_
      obtain ⟨row, hrow⟩ : ∃ row, ss.length - k = row + 1 := ⟨ss.length - k - 1, by (first | lia | omega)⟩
      have hrv : (vs.length : Int) - 1 + (k : Int) * -1 = (row : Nat) := by (first | lia | omega)
      rw [hrv] at F
      walk_at "gs"
      refine MethodCall_ ?_
      walk_at "gs"
      obtain ⟨dx, nb, bs, es, Hh, eb, hbR, hes, hv⟩ := id hb
      refine r_mthH G F.keep (Hh.keeps F.keep) (f := 219) (by kernel_rfl) (by kernel_rfl) (hd_sh lx _ (by decide)) ?_
      refine callWith_K (h₀ := h) G.K ki_getall ?_
      refine spliced_more ?_ (by rfl)
      refine wpAny_BinOp ?_
      walk_at "gs"
      have hrow3 : row < 3 := by (first | lia | omega)
      refine midV (R := fun v => ∃ t, v = .str (rp "a" row) t) ?_ ?_
      · match row, hrow3 with
        | 0, _ => exact r_smul0 fun t' tk' h => MidV.mk h ⟨t', rfl⟩
        | row + 1, h3 =>
          have e1 : rp "a" 1 = "a" := rp_one.1
          refine r_smul (n := row + 1) (by (first | lia | omega)) (by show 1 * (row + 1) ≤ 1000; (first | lia | omega)) (by decide) (by (first | lia | omega)) e1 fun t' tk' h _ _ => MidV.mk h ⟨t', rfl⟩
      rintro v tk12 t12 ⟨ta, rfl⟩
      refine r_sadd ?_ fun tn tk13 t13 => ?_
      · have : (rp "a" row).length = row := (rp_nm row hrow3).2
        rw [this]
        exact Nat.le_trans (show 1 + row ≤ 4 by (first | lia | omega)) (by decide)
      walk_at "gs"
      refine ⟨G.K.keeps F.keep, ?_⟩
      have hlow := rp_low row hrow3
      have hnm := (rp_nm row hrow3).1
      have hlen : bs.length = ops.length := by
        have := congrArg List.length hes
        simpa [hbR.length] using this
      refine t_getall (B := B) x dx lx (G.keeps F.keep) (Hh.keeps F.keep) (F.keep _ _ eb) (IsLst.of _ _) (hbR.mono (fun a o e => F.keep _ _ e) (Nat.le_refl _)) (by (first | lia | omega)) _ tn (by rw [hnm]; exact hlow.2.2.1) (by rw [hnm, hlow.2.2.2.2.2.1]; (first | lia | omega)) ?_ (bag_fit hes hv) (dp + 1) (un + 3) fr' gd _ _ (by (first | lia | omega)) (by (first | lia | omega)) ?_
      · rw [hnm]
        show decide ((rp "a" (row + 1)).cps.size > sizeLine) = false
        rw [hlow.2.2.2.2.2.1]
        have : (4 : Nat) ≤ sizeLine := by decide
        exact decide_eq_false (by (first | lia | omega))
      rintro r14 h14 tk14 t14 kx ⟨ta14, k14, ws14, rfl, n14, R14⟩
      have te : (es.filter (fun e => Txt.lower e.1 == Txt.lower ("A" ++ rp "a" row))).map (fun e => Dat.str e.2) = ((ops.filter (fun p => p.1 == row)).map (fun p => rp "x" (p.2 + 1))).map Dat.str := by
        rw [← told_eq hes hv hnm hrow3, List.map_map]; rfl
      replace R14 : RA (At h) B ws14 (((ops.filter (fun p => p.1 == row)).map (fun p => rp "x" (p.2 + 1))).map Dat.str) := ra_strs (te ▸ R14)
      replace F := F.new (kpx kx) n14.1 n14.2
      walk_at "gs"
      replace F := (‹Fm _ _ _ _ _› : Fm _ L _ _ _)
      refine wpAny_For ?_ (by intro _; rfl)
      refine callT F G (bn_range G) bv_range ?_
      walk_at "gs"
      obtain ⟨ts, hsr⟩ := hsv row (by (first | lia | omega))
      refine itL (F.keep _ _ el) hl (Int.natCast_nonneg _) (by (first | lia | omega)) (by rw [Int.toNat_natCast]; exact hsr) ?_
      walk_at "gs"
      refine rg1 fun r15 h15 tk15 u15 v15 t15 k15 n15 => ?_
      have hs3 := S.le3 row
      refine itr1 (n := sh ss row) n15.2 (by rfl) (by (first | lia | omega)) (by (first | lia | omega)) fun I16 h16 k16 n16 s16 => ?_
      replace F := (F.kp k15).its k16 n16
      rw [hrow] at P
      refine forD (src := []) (fun c l N _ => ∀ G : Prop, (lk l "grid" = some (.ref D) → lk l "sizes" = some (.ref ax) → lk l "bag" = some (.ref x) → ∀ t, lk l "row" = some (.int (row : Nat) t) → lk l "told" = some (.ref ta14) → ∀ g N2, N = (ta14, lisO ws14 k14) :: (Is ++ N2) → GrN D m (sh ss) ss.length g N2 → Puts (sh ss) g (opC (fun r c => ops.count (r, c)) row (sh ss row - c) c ++ opR (sh ss) (fun r c => ops.count (r, c)) row) gf → G) → G)
        (Dr.range rfl) F s16 (fun _ kZ => kZ l1 l2 l3 tb rfl rfl _ _ rfl GX P) (fun _ _ _ _ _ q hq => nomatch hq) ?_ ?_
      · rintro c b l N Is3 h17 tkj tk17 _ _ hc hbI hS3 t16 t17 hJJ F
        refine dr0 hbI F fun tc F => ?_
        refine hJJ _ fun l1 l2 l3 tr l4 l5 g N2 hN GX P => ?_
        replace F := F.eqA hN
        obtain ⟨kc, hkc⟩ : ∃ kc, sh ss row - c = kc + 1 := ⟨sh ss row - c - 1, by (first | lia | omega)⟩
        rw [hkc, opC, List.append_assoc] at P
        have hc3 : c < 3 := by (first | lia | omega)
        walk_at "gs"
        refine wpAny_For ?_ (by intro _; rfl)
        refine callT F G (bn_range G) bv_range ?_
        refine spliced_more ?_ (by rfl)
        refine callN F G (gn_countOf G) ki_countOf fun Qc Kc => ?_
        walk_at "gs"
        rw [show ((c : Int) + 1) = ((c + 1 : Nat) : Int) from rfl]
        rename_i tz tkz hz1 hz2 _ _ hz3 _ _ hz4
        refine r_smul (n := c + 1) (by (first | lia | omega)) (by show 1 * (c + 1) ≤ 1000; (first | lia | omega)) (by decide) (Nat.le_trans hz2 (Nat.le_trans hz3 hz4)) rp_one.2.2.1 fun tx tk18 t18 q1 q2 => ?_
        walk_at "gs"
        refine CN.mk F.keep ?_
        refine Fn.iF (t_countOf (B := B) (xs := (ops.filter (fun p => p.1 == row)).map (fun p => rp "x" (p.2 + 1))) (G.keeps F.keep) (.list (F.of (q := (ta14, lisO ws14 k14)) (by walk_at "mm")) (IsLst.of _ _) (ra_strs R14)) (Nat.lt_of_lt_of_le (Nat.lt_of_le_of_lt (by (first | lia | omega)) hz1) q1)) F (by (first | lia | omega)) (by (first | lia | omega)) fun h19 tk19 tcnt t19 F => ?_
        refine Le.go Kc ?_
        try clear Kc Qc
        try dsimp only
        rw [told_count hv hc3]
        walk_at "gs"
        have hcnt : ops.count (row, c) ≤ ops.length := List.count_le_length
        refine rg1 fun r20 h20 tk20 u20 v20 t20 k20 n20 => ?_
        refine itr1 (n := ops.count (row, c)) n20.2 (by rfl) (by (first | lia | omega)) (by (first | lia | omega)) fun I21 h21 k21 n21 s21 => ?_
        replace F := (F.kp k20).its k21 n21
        refine forD (src := []) (fun q l N _ => ∀ G : Prop, (lk l "grid" = some (.ref D) → lk l "sizes" = some (.ref ax) → lk l "bag" = some (.ref x) → ∀ t, lk l "row" = some (.int (row : Nat) t) → lk l "told" = some (.ref ta14) → ∀ t, lk l "column" = some (.int (c : Nat) t) → ∀ g N2, N = Is3 ++ ((ta14, lisO ws14 k14) :: (Is ++ N2)) → GrN D m (sh ss) ss.length g N2 → Puts (sh ss) g (List.replicate (ops.count (row, c) - q) (row, c) ++ (opC (fun r c => ops.count (r, c)) row kc (c + 1) ++ opR (sh ss) (fun r c => ops.count (r, c)) row)) gf → G) → G)
          (Dr.range rfl) F s21 (fun _ kZ => kZ l1 l2 l3 tr l4 l5 tc rfl _ _ rfl GX P) (fun _ _ _ _ _ q hq => nomatch hq) ?_ ?_
        · rintro q b l N Is4 h22 tkj tk22 _ _ hq hbI hS4 t21 t22 hJJ F
          refine drT hbI F fun tq F => ?_
          refine hJJ _ fun l1 l2 l3 tr l4 l5 tc l6 g N2 hN GX P => ?_
          replace F := F.eqA hN
          obtain ⟨kq, hkq⟩ : ∃ kq, ops.count (row, c) - q = kq + 1 := ⟨ops.count (row, c) - q - 1, by (first | lia | omega)⟩
          rw [hkq, List.replicate_succ, List.cons_append] at P
          refine P.uncons fun a g' p1 p2 p3 PR P => ?_
          walk_at "g"
          refine asg2 rfl ?_
          walk_at "g"
          refine callN F G (gn_law_depth G) ki_law_depth fun Qc Kc => ?_
          walk_at "gs"
          refine CN.mk F.keep ?_
          refine Fn.iF (t_depth (B := 0) (ss := ss) (G.keeps F.keep) (.list (F.keep _ _ el) hl (by have := RA.ints (H := At h22) (B := 0) hi; rw [List.map_map] at this; exact this)) (by (first | lia | omega)) c tc) F (by (first | lia | omega)) (by (first | lia | omega)) fun h23 tk23 t24 t23 F => ?_
          refine Le.go Kc ?_
          try clear Kc Qc
          try dsimp only
          rw [dep_len, dep_eq S p2 p3]
          walk_at "gs"
          rw [show ((a + 1 : Nat) : Int) - 1 = (a : Nat) by (first | lia | omega)]
          refine A2.mk F fun h25 tk25 t25 F => ?_
          walk_at "gs"
          refine wpAny_For ?_ (by intro _; rfl)
          refine callT F G (bn_range G) bv_range ?_
          walk_at "gs"
          refine rg1 fun r26 h26 tk26 u26 v26 t26 k26 n26 => ?_
          refine itr1 (n := 5) n26.2 (by rfl) (by decide) (by decide) fun I27 h27 k27 n27 s27 => ?_
          replace F := (F.kp k26).its k27 n27
          refine forD (src := []) (fun n l N _ => ∀ G : Prop, (lk l "grid" = some (.ref D) → lk l "sizes" = some (.ref ax) → lk l "bag" = some (.ref x) → ∀ t, lk l "row" = some (.int (row : Nat) t) → lk l "told" = some (.ref ta14) → ∀ t, lk l "column" = some (.int (c : Nat) t) → ∀ i j gc N2, ∀ t, lk l "i" = some (.int (i : Nat) t) → ∀ t, lk l "j" = some (.int (j : Nat) t) → N = Is4 ++ (Is3 ++ ((ta14, lisO ws14 k14) :: (Is ++ N2))) → GrN D m (sh ss) ss.length gc N2 → PutR (sh ss) row gc i j (5 - n) g' → G) → G)
            (Dr.range rfl) F s27 (fun _ kZ => kZ l1 l2 l3 tr l4 l5 tc l6 a c _ _ _ rfl _ rfl rfl GX PR) (fun _ _ _ _ _ q hq => nomatch hq) ?_ ?_
          · rintro n b l N Is5 h28 tkj tk28 _ _ hn hbI hS5 t27 t28 hJJ F
            refine drT hbI F fun tn F => ?_
            refine hJJ _ fun l1 l2 l3 tr l4 l5 tc l6 i j gc N2 ti l7 tj l8 hN GX PR => ?_
            replace F := F.eqA hN
            obtain ⟨kn, hkn⟩ : ∃ kn, 5 - n = kn + 1 := ⟨5 - n - 1, by (first | lia | omega)⟩
            rw [hkn] at PR
            have hjs := PR.in_row
            have hiR : i < ss.length := S.lt hjs
            have hi3 := S.le3 i
            have hrow := PR.row
            obtain ⟨Rs, ra, ro, rv, hNe, hRl, hg1, hg2, hlo, hri, hrl, hrj⟩ := GX.get hiR
            subst hNe
            have mR : (ra, ro) ∈ Rs := List.mem_of_getElem? hg2
            have eG := F.of (q := (D, lisO (Rs.map fun q => .ref q.1) m)) (by walk_at "mm")
            have gR : h.get? ra = none := (F.led (ra, ro) (by walk_at "mm")).2.2
            walk_at "g"
            refine wpAny_Assign_Name ?_ (by rfl)
            refine midFe F (.bool (decide (j + 1 < sh ss i ∧ gc i (j + 1) = gc i j))) ?_ ?_
            · refine BoolOp_and ?_
              walk_at "gs"
              obtain ⟨tsi, hsi⟩ := hsv i hiR
              refine itL (F.keep _ _ el) hl (Int.natCast_nonneg _) (by (first | lia | omega)) (by rw [Int.toNat_natCast]; exact hsi) ?_
              walk_at "gs"
              refine iteP (fun hj1 => ?_) fun hj1 => ?_
              · skip
                have hj1 : j + 1 < sh ss i := by have := of_decide_eq_true hj1; (first | lia | omega)
                obtain ⟨t29, hv29⟩ := hrj (j + 1) hj1
                obtain ⟨t30, hv30⟩ := hrj j hjs
                refine BoolOp_one ?_
                refine callN F G (gn_eq G) ki_eq fun Qc Kc => ?_
                refine spliced_more ?_ (by rfl)
                refine callN F G (gn_getitem G) ki_getitem fun Qc Kc => ?_
                walk_at "gs"
                refine itL eG (IsLst.of _ _) (Int.natCast_nonneg _) (by (first | lia | omega)) (by rw [Int.toNat_natCast]; exact hg1) ?_
                walk_at "gs"
                refine CN.mk F.keep ?_
                refine Fn.vF (t_getitem (G.keeps F.keep) (F.of (q := (ra, ro)) (by walk_at "mm")) hlo _ _ (by (first | lia | omega)) (by (first | lia | omega)) (by rw [show ((j : Int) + 1).toNat = j + 1 by (first | lia | omega)]; exact hv29)) F (by (first | lia | omega)) (by (first | lia | omega)) fun h31 tk31 t31 F => ?_
                refine Le.go Kc ?_
                try clear Kc Qc
                try dsimp only
                walk_at "gs"
                refine itL (F.of (q := (D, lisO (Rs.map fun q => .ref q.1) m)) (by walk_at "mm")) (IsLst.of _ _) (Int.natCast_nonneg _) (by (first | lia | omega)) (by rw [Int.toNat_natCast]; exact hg1) ?_
                walk_at "gs"
                refine itL (F.of (q := (ra, ro)) (by walk_at "mm")) hlo (Int.natCast_nonneg _) (by (first | lia | omega)) (by rw [Int.toNat_natCast]; exact hv30) ?_
                walk_at "gs"
                refine CN.mk F.keep ?_
                refine Fn.vF (t_eq (G.keeps F.keep) _ _ _ _) F (by (first | lia | omega)) (by (first | lia | omega)) fun h32 tk32 t32 F => ?_
                refine Le.go Kc ?_
                try clear Kc Qc
                try dsimp only
                refine MidF.mk (by (first | lia | omega)) F ?_
                by_cases he : gc i (j + 1) = gc i j
                · have : ((gc i (j + 1) : Int) == (gc i j : Int)) = true := by rw [beq_iff_eq]; (first | lia | omega)
                  rw [this, decide_eq_true ⟨hj1, he⟩]
                · have : ((gc i (j + 1) : Int) == (gc i j : Int)) = false := by
                    rw [beq_eq_false_iff_ne]; (first | lia | omega)
                  rw [this, decide_eq_false fun z => he z.2]
              · skip
                have hj1 : ¬ j + 1 < sh ss i := fun z => hj1 (decide_eq_true (by (first | lia | omega)))
                refine MidF.mk (by (first | lia | omega)) F ?_
                rw [decide_eq_false (by (first | lia | omega) : ¬ ((j : Int) + 1 < (sh ss i : Nat))), decide_eq_false (fun z => hj1 z.1)]
            intro h33 tk33 t33 F
            walk_at "gs"
            replace F := (‹Fm _ _ _ _ _› : Fm _ L _ _ _)
            refine wpAny_Expr_any ?_
            refine callN F G (gn_setitem G) ki_setitem fun Qc Kc => ?_
            walk_at "gs"
            refine itL (F.of (q := (D, lisO (Rs.map fun q => .ref q.1) m)) (by walk_at "mm")) (IsLst.of _ _) (Int.natCast_nonneg _) (by (first | lia | omega)) (by rw [Int.toNat_natCast]; exact hg1) ?_
            refine spliced_more ?_ (by rfl)
            walk_at "ge"
            refine spliced_more ?_ (by rfl)
            refine callN F G (gn_add G) ki_add fun Qc Kc => ?_
            walk_at "gs"
            refine itL (F.of (q := (D, lisO (Rs.map fun q => .ref q.1) m)) (by walk_at "mm")) (IsLst.of _ _) (Int.natCast_nonneg _) (by (first | lia | omega)) (by rw [Int.toNat_natCast]; exact hg1) ?_
            walk_at "gs"
            obtain ⟨t30, hv30⟩ := hrj j hjs
            refine itL (F.of (q := (ra, ro)) (by walk_at "mm")) hlo (Int.natCast_nonneg _) (by (first | lia | omega)) (by rw [Int.toNat_natCast]; exact hv30) ?_
            walk_at "gs"
            refine CN.mk F.keep ?_
            refine Fn.iF (t_add (G.keeps F.keep) _ _ _ _) F (by (first | lia | omega)) (by (first | lia | omega)) fun h34 tk34 t35 t34 F => ?_
            refine Le.go Kc ?_
            try clear Kc Qc
            try dsimp only
            walk_at "gs"
            refine CN.mk F.keep ?_
            refine t_setitem (G.keeps (kp_but F.keep (fun b hb => by rw [List.mem_singleton.mp hb]; exact gR))) (F.of (q := (ra, ro)) (by walk_at "mm")) hlo _ _ (Int.natCast_nonneg _) (by (first | lia | omega)) (by (first | lia | omega)) (dp + 1) (un + 3) fr' gd _ _ (by (first | lia | omega)) (by (first | lia | omega)) ?_
            rintro r36 h36 tk36 t36 kx36 ⟨rfl, o36, e36, hl36⟩
            refine Le.go Kc ?_
            try clear Kc Qc
            try dsimp only
            rw [Int.toNat_natCast] at hl36
            have eN : Is5 ++ (Is4 ++ (Is3 ++ ((ta14, lisO ws14 k14) :: (Is ++ (D, lisO (Rs.map fun q => .ref q.1) m) :: Rs)))) = (Is5 ++ (Is4 ++ (Is3 ++ ((ta14, lisO ws14 k14) :: Is)))) ++ (D, lisO (Rs.map fun q => .ref q.1) m) :: Rs := by simp
            rw [eN] at F
            obtain ⟨N3, GX, F⟩ := GX.upd (v := gc i j + 1) hg2 hri (rowL_inc _ gc i j) (fun b hb => (rowL_off _ gc hb).1) F kx36 e36 hl36
            simp only [List.append_assoc, List.cons_append] at F
            walk_at "g"
            refine wpAny_If ?_
            obtain ⟨tsr, hsr2⟩ := hsv row (by (first | lia | omega))
            have hsp := S.hp row (by (first | lia | omega))
            refine midVe (decide (i = row ∧ j + 1 = sh ss row)) ?_ ?_
            · walk_at "gs"
              refine iteP (fun hir => ?_) fun hir => ?_
              · skip
                have hir : i = row := by have := beq_iff_eq.mp hir; (first | lia | omega)
                walk_at "gs"
                refine itL (F.keep _ _ el) hl (Int.natCast_nonneg _) (by (first | lia | omega)) (by rw [Int.toNat_natCast]; exact hsr2) ?_
                walk_at "gs"
                refine iteP (fun hjr => ?_) fun hjr => ?_
                · skip
                  have hjr : j + 1 = sh ss row := by have := beq_iff_eq.mp hjr; (first | lia | omega)
                  walk_at "gs"
                  exact MidV.mk (by (first | lia | omega)) ((decide_eq_true ⟨hir, hjr⟩).symm)
                · skip
                  have hjr : ¬ j + 1 = sh ss row := fun z => hjr (beq_iff_eq.mpr (by (first | lia | omega)))
                  exact MidV.mk (by (first | lia | omega)) ((decide_eq_false fun z => hjr z.2).symm)
              · skip
                have hir : ¬ i = row := fun z => hir (beq_iff_eq.mpr (by (first | lia | omega)))
                exact MidV.mk (by (first | lia | omega)) ((decide_eq_false fun z => hir z.1).symm)
            intro tk37 t37
            by_cases hst : i = row ∧ j + 1 = sh ss row
            · refine iteT (decide_eq_true hst) ?_
              rw [← PR.at_stop hst] at GX
              walk_at "gs"
              show Qz _ _
              walk_at "gK"
              walk_at "gs"
              exact TnD.next (F.sub (List.sublist_append_right Is5 _)) (fun _ kZ => kZ l1 l2 l3 tr l4 l5 tc l6 _ N3 rfl GX (by rw [show ops.count (row, c) - (q + 1) = kq by (first | lia | omega)]; exact P))
            · refine iteD hst ?_
              walk_at "gs"
              refine asgU rfl ?_
              walk_at "gs"
              refine iteP (fun hri2 => ?_) fun hri2 => ?_
              · skip
                have hri2 := of_decide_eq_true hri2
                have PR2 := PR.go_right hst hri2
                walk_at "gs"
                refine mkT F (by show 2 ≤ sizeLine; decide) fun ta h38 _ _ F => ?_
                refine AU.mk F (F.of (.head _)) fun h39 tk39 t39 F => ?_
                walk_at "gs"
                exact TnD.next (F.sub (List.sublist_cons_self _ _)) (fun _ kZ => kZ l1 l2 l3 tr l4 l5 tc l6 i (j + 1) _ N3 _ rfl _ rfl rfl GX (by rw [show 5 - (n + 1) = kn by (first | lia | omega)]; exact PR2))
              · skip
                have hri2 : ¬ (j + 1 < sh ss i ∧ gc i (j + 1) = gc i j) := fun z => hri2 (decide_eq_true z)
                refine PR.go_up hst hri2 fun i' hi' PR2 => ?_
                walk_at "gs"
                refine mkT F (by show 2 ≤ sizeLine; decide) fun ta h38 _ _ F => ?_
                refine AU.mk F (F.of (.head _)) fun h39 tk39 t39 F => ?_
                walk_at "gs"
                exact TnD.next (F.sub (List.sublist_cons_self _ _)) (fun _ kZ => kZ l1 l2 l3 tr l4 l5 tc l6 i' j _ N3 _ (by rw [show (i' : Int) = (i : Int) - 1 by (first | lia | omega)]; rfl) _ rfl rfl GX (by rw [show 5 - (n + 1) = kn by (first | lia | omega)]; exact PR2))
          · rintro l N h28 tkj tk28 t27 t28 hJJ F
            refine hJJ _ fun l1 l2 l3 tr l4 l5 tc l6 i j gc N2 _ _ _ _ hN GX PR => ?_
            replace F := F.eqN hN
            exact PR.no0
        · rintro l N h28 tkj tk28 t27 t28 hJJ F
          refine hJJ _ fun l1 l2 l3 tr l4 l5 tc l6 g N2 hN GX P => ?_
          replace F := F.eqN hN
          try dsimp only
          walk_at "gs"
          rw [Nat.sub_self] at P
          exact TnD.next F (fun _ kZ => kZ l1 l2 l3 tr l4 l5 g N2 rfl GX (by rw [show sh ss row - (c + 1) = kc by (first | lia | omega)]; exact P))
      · rintro l N h28 tkj tk28 t27 t28 hJJ F
        refine hJJ _ fun l1 l2 l3 tr l4 l5 g N2 hN GX P => ?_
        replace F := F.eqN hN
        try dsimp only
        walk_at "gs"
        rw [Nat.sub_self] at P
        exact TnD.next (F.sub (List.sublist_cons_self _ _)) (fun _ kZ => kZ l1 l2 l3 g GX (by rw [show ss.length - (k + 1) = row by (first | lia | omega)]; exact P))
    · rintro l N h28 tkj tk28 t27 t28 hJJ F
      refine hJJ _ fun l1 l2 l3 g GX P => ?_
      try dsimp only
      walk_at "gs"
      rw [Nat.sub_self] at P
      rw [← P.of_nil] at GX
      obtain ⟨Rs, rfl, X⟩ := GX
      refine H _ _ _ (by (first | lia | omega)) (fun b o _ => F.keep b o) ⟨D, rfl, ?_⟩
      have c := F.led _ (.head _)
      refine .list (o := lisO (Rs.map fun q => .ref q.1) m) ⟨c.2.2, c.1⟩ (IsLst.of _ _) (X.ra fun q hq => ?_)
      have c := F.led q (.tail _ hq)
      exact ⟨c.2.2, c.1⟩
end
section
variable {w : World} {loose : List Str} {mean : ExcName → Option Value} {mg mb : Str → Option Value} {h : Heap} {tk : Nat}
noncomputable def nmT (i : Nat) : Str := if i = 0 then "a" else if i = 1 then "AA" else "aaa"
noncomputable abbrev entD (p : Nat × Nat) : Dat := .tuple [.str (nmT p.1), .str (rp "x" (p.2 + 1))]
theorem nmT_ok : ∀ k : Nat, k < 3 → okS nmCode (nmT k) = true ∧ Txt.lower (nmT k) = rp "a" (k + 1) ∧ (nmT k).cps.size < 1000 := by
  have : ∀ k : Fin 3, okS nmCode (nmT k.val) = true ∧ Txt.lower (nmT k.val) = rp "a" (k.val + 1) ∧ (nmT k.val).cps.size < 1000 := by decide +kernel
  exact fun k hk => this ⟨k, hk⟩
theorem nm3 {ta1 ta2 ta3 b1 b2 b3 : Nat} (q1 : b1 < ta1) (q1' : ta1 ≤ b2) (q2 : b2 < ta2) (q2' : ta2 ≤ b3) (q3 : b3 < ta3) {B : Nat} (q3' : ta3 ≤ B) : ∀ k : Nat, k < 3 →
    ∃ tn : Nat, [Value.str "a" ta1, .str "AA" ta2, .str "aaa" ta3][k]? = some (.str (nmT k) tn) ∧ 0 < tn ∧ tn ≤ B
  | 0, _ => ⟨ta1, rfl, by omega, by omega⟩
  | 1, _ => ⟨ta2, rfl, by omega, by omega⟩
  | 2, _ => ⟨ta3, rfl, by omega, by omega⟩
theorem t_take (G : Gd w loose mean mg mb h) {B : Nat} {ax fx : Addr} {o : Obj} {vs : List Value} {ss : List Nat} {ops : List (Nat × Nat)} {g gf : Grd} (el : h.get? ax = some o) (hl : IsLst o vs) (hi : IntsAre vs (ss.map fun d : Nat => (d : Int))) (hs : Shp ss)
    (R : RD (At h) B (.ref fx) (gD (rowsOf (sh ss) ss.length g))) (hz : ops.length < 1000) (T : Takes (sh ss) ss.length 0 g ops gf) :
    Fn w (.ref 304) [.ref ax, .ref fx] 20 200 [] h tk (fun r h' tk' => ∃ x dx lx n vs, r = .ref x ∧ New h h' x (instObj 280 dx) ∧ (∃ hs k, New h h' dx (hdD hs k (.ref lx))) ∧ New h h' lx (lisO vs n) ∧ RA (New h h') tk' vs (ops.map entD)) := by
  intro dp un fr gd s₀ Q hd hu H
  have S := hs.sh
  have hle : vs.length = ss.length := by rw [hi.length, List.length_map]
  have hR3 : ss.length ≤ 3 := hs.2.1
  have hss : ∀ i, i < ss.length → ss[i]? = some (sh ss i) := fun i h => by simp [sh, h]
  have hsv : ∀ i, i < ss.length → ∃ t, vs[i]? = some (.int (sh ss i : Nat) t) := fun i h => ints_get hi (hss i h)
  refine R.lisR fun fo fvs hm hlf ra => ?_
  have hfl : fvs.length = ss.length := by rw [ra.length, List.length_map]; simp [rowsOf]
  refine enterP (by assumption) (by rfl) (by rfl) (by (first | lia | omega)) (by rfl) (by rfl) ?_ (by rfl) (by rfl) (by rfl) (by decide)
  intro fr' L h₁ tk₁ t₁ F
  have G1 := G.keeps F.keep
  walk_at "g"
  refine asg2 rfl ?_ (he := by exact star_LC.trans rfl)
  refine compE (cl := []) ?_ (by rfl)
  walk_at "gs"
  refine itrL (F.keep _ _ hm) hlf fun I h3 k3 n3 s3 => ?_
  refine comp1 (fun i ws N _ => ws = N.map (fun q => .ref q.1) ∧ ws.length = i ∧ RowsAre N ((rowsOf (sh ss) ss.length g).take i)) F k3 n3 s3 (fun C => Dr.list hlf rfl) (fun q hq => by rw [List.mem_singleton.mp hq]; exact F.keep _ _ hm) ⟨rfl, rfl, .nil⟩ ?_ ?_
  · rintro C D i b l ws m N Is h₃ tkj tk₃ hi' hbI t4 t5 ⟨hws, hwl, X⟩ F₃
    refine drV hbI F₃ fun v hv F₃ => ?_
    refine wpAny_tests_nil ?_
    refine iteT rfl ?_
    refine RD.rowE (ra.at hv (rowsOf_get (by (first | lia | omega)))) fun la lo lvs ev hm2 hl2 hi2 => ?_
    replace F₃ := F₃.val ev
    have h3 := S.le3 i
    refine callT F₃ G1 (bn_list G1) bv_list ?_
    walk_at "gs"
    refine r_listc F₃ (F₃.keep _ _ (F.keep _ _ hm2)) hl2 ?_ fun rr n6 h6 k6 F => ?_
    · rw [hi2.length, List.length_map, rowL_len]; exact Nat.le_trans h3 (by decide)
    refine CE.mk (N := N ++ [(rr, lisO lvs n6)]) (by (first | lia | omega)) (F.perm ?_) (Nat.le_trans (show ws.length ≤ 3 by (first | lia | omega)) (by decide)) ⟨by rw [List.map_append, hws]; rfl, by rw [List.length_append, hwl]; rfl, ?_⟩
    · refine (List.Perm.swap _ _ _).trans (List.Perm.cons _ ?_)
      rw [← List.append_assoc]
      exact (List.perm_append_singleton _ _).symm
    · rw [List.take_add_one, rowsOf_get (by (first | lia | omega))]
      exact X.snoc (IsLst.of _ _) hi2
  · rintro C D l' ws m N' h₃ tkj tk₃ t4 t5 ⟨hws, hwl, X⟩ F₃
    refine postV F F₃ fun h4 F => ?_
    have GX : GrN D m (sh ss) ss.length g ((D, lisO ws m) :: N') := ⟨N', by rw [hws], by
      have e : List.take fvs.length (rowsOf (sh ss) ss.length g) = rowsOf (sh ss) ss.length g := List.take_of_length_le (by simp [rowsOf, hfl])
      rw [e] at X; exact X⟩
    replace F : Fm h L _ ((D, lisO ws m) :: N') h4 := F
    generalize hN : (D, lisO ws m) :: N' = N0 at F GX
    refine callN0 F G (gn_Headers G) ki_Headers ?_
    refine t_new (G.keeps F.keep) (dp + 1) (un + 3) fr' gd _ _ (by (first | lia | omega)) (by (first | lia | omega)) ?_
    rintro r h5 tk5 t5' kx ⟨x, dx, lx, n, rfl, nx, ⟨hsh, kd, nd⟩, nl⟩
    have d1 : lx ≠ x := fun z => by have := nl.2; rw [z, nx.2] at this; cases this
    have d2 : lx ≠ dx := fun z => by
      have := nl.2
      rw [z, nd.2] at this
      exact absurd (congrArg (fun o => o.map (fun x => x.cls)) this) (by simp [hdD])
    replace F : Fm h L _ (N0 ++ [(lx, lisO [] n), (x, instObj 280 dx), (dx, hdD hsh kd (.ref lx))]) h5 := F.app (kpx kx) (fun q hq => by
      simp only [List.mem_cons, List.not_mem_nil, or_false] at hq
      rcases hq with rfl | rfl | rfl
      · exact nl
      · exact nx
      · exact nd) (by
      have d3 : x ≠ dx := fun z => by
        have := nx.2
        rw [z, nd.2] at this
        exact absurd (congrArg (fun o => o.map (fun x => x.cls)) this) (by simp [hdD])
      simp [d1, d2, d3])
    refine A2.mk F fun h6 tk6 t6 F => ?_
    walk_at "gs"
    refine wpAny_For ?_ (by intro _; rfl)
    refine callT F G (bn_range G) bv_range ?_
    refine spliced_more ?_ (by rfl)
    refine callB F G (bn_len G) bv_len ?_
    walk_at "gs"
    refine lenL (F.keep _ _ el) hl (by (first | lia | omega)) fun t7 tk7 t8 => ?_
    walk_at "gs"
    refine rg1 fun r9 h9 tk9 u9 v9 t9 k9 n9 => ?_
    refine itr1 (n := ss.length) n9.2 (by (first | lia | omega)) (by (first | lia | omega)) (by (first | lia | omega)) fun I10 h10 k10 n10 s10 => ?_
    replace F := (F.kp k9).its k10 n10
    replace F := F.perm (List.Perm.append_left [_] (List.perm_append_comm (l₁ := N0)))
    refine forD (src := []) (fun k l N tkc => ∀ G : Prop, (lk l "grid" = some (.ref D) → lk l "sizes" = some (.ref ax) → lk l "bag" = some (.ref x) → ∀ g' done rest bvs bn Tt N2, N = (lx, lisO bvs bn) :: (Tt ++ N2) → GrN D m (sh ss) ss.length g' N2 → Takes (sh ss) ss.length k g' rest gf → ops = done ++ rest → RA (In Tt) tkc bvs (done.map entD) → (x, instObj 280 dx) ∈ Tt → (dx, hdD hsh kd (.ref lx)) ∈ Tt → G) → G)
      (Dr.range rfl) F s10 (fun _ kZ => kZ rfl rfl rfl g [] ops [] n [(x, instObj 280 dx), (dx, hdD hsh kd (.ref lx))] N0 rfl GX T rfl .nil (.head _) (.tail _ (.head _))) (fun _ _ _ _ _ q hq => nomatch hq) ?_ ?_
    · rintro k b l N Is h11 tkj tk11 _ _ hk hbI hS t10 t11 hJJ F
      refine dr0 hbI F fun tb F => ?_
      refine hJJ _ fun l1 l2 l3 g' done rest bvs bn Tt N2 hN GX T hop RT mx md => ?_
      replace F := F.eqA hN
      obtain ⟨tsk, hsk⟩ := hsv k hk
      have hsp := S.hp k hk
      have hs3 := S.le3 k
      walk_at "g"
      refine whileD (fun q l N tkc => ∀ G : Prop, (lk l "grid" = some (.ref D) → lk l "sizes" = some (.ref ax) → lk l "bag" = some (.ref x) → ∀ t, lk l "row" = some (.int (k : Nat) t) → ∀ g' done rest bvs bn Tt N2, N = Is ++ (lx, lisO bvs bn) :: (Tt ++ N2) → GrN D m (sh ss) ss.length g' N2 → Takes (sh ss) ss.length k g' rest gf → rest.length = q → ops = done ++ rest → RA (In Tt) tkc bvs (done.map entD) → (x, instObj 280 dx) ∈ Tt → (dx, hdD hsh kd (.ref lx)) ∈ Tt → G) → G)
          (n₀ := rest.length) F
        (fun _ kZ => kZ l1 l2 l3 tb rfl g' done rest bvs bn Tt N2 rfl GX T rfl hop (RT.mono (fun _ _ h => h) t11) mx md) ?_
      clear F GX T hop RT mx md l1 l2 l3
      rintro q l N h12 tk12 _ _ t12 hJJ F
      refine hJJ _ fun l1 l2 l3 tr l4 g' done rest bvs bn Tt N2 hN GX T hrq hop RT mx md => ?_
      replace F := F.eqN hN
      obtain ⟨Rs, ra, ro, rv, hNe, hRl, hg1, hg2, hlo, hri, hrl2, hrj⟩ := GX.get hk
      subst hNe
      have mR : (ra, ro) ∈ Rs := List.mem_of_getElem? hg2
      refine midFe F (decide (0 < g' k (sh ss k - 1))) ?_ ?_
      · obtain ⟨t30, hv30⟩ := hrj (sh ss k - 1) (by (first | lia | omega))
        walk_at "gs"
        refine callN F G (gn_getitem G) ki_getitem fun Qc Kc => ?_
        walk_at "gs"
        refine itL (F.of (q := (D, lisO (Rs.map fun q => .ref q.1) m)) (by walk_at "mm")) (IsLst.of _ _) (Int.natCast_nonneg _) (by (first | lia | omega)) (by rw [Int.toNat_natCast]; exact hg1) ?_
        walk_at "gs"
        refine itL (F.keep _ _ el) hl (Int.natCast_nonneg _) (by (first | lia | omega)) (by rw [Int.toNat_natCast]; exact hsk) ?_
        walk_at "gs"
        refine CN.mk F.keep ?_
        refine Fn.vF (t_getitem (G.keeps F.keep) (F.of (q := (ra, ro)) (by walk_at "mm")) hlo _ _ (by (first | lia | omega)) (by (first | lia | omega)) (by rw [show ((sh ss k : Nat) - 1 : Int).toNat = sh ss k - 1 by (first | lia | omega)]; exact hv30)) F (by (first | lia | omega)) (by (first | lia | omega)) fun h31 tk31 t31 F => ?_
        refine Le.go Kc ?_
        try clear Kc Qc
        try dsimp only
        walk_at "gs"
        refine MidF.mk (by (first | lia | omega)) F ?_
        by_cases h0 : 0 < g' k (sh ss k - 1)
        · rw [decide_eq_true h0, decide_eq_true (by (first | lia | omega))]
        · rw [decide_eq_false h0, decide_eq_false (by (first | lia | omega))]
      intro h33 tk33 t33 F
      refine Le.go (by assumption) ?_
      try dsimp only
      by_cases h0 : 0 < g' k (sh ss k - 1)
      · refine iteT (decide_eq_true h0) ?_
        intro _ _
        refine T.pick hk h0 fun d c g2 rest' hop' TP T => ?_
        walk_at "g"
        refine asg2 rfl ?_
        walk_at "gs"
        refine itL (F.keep _ _ el) hl (Int.natCast_nonneg _) (by (first | lia | omega)) (by rw [Int.toNat_natCast]; exact hsk) ?_
        walk_at "gs"
        refine A2.mk F fun h34 tk34 t34 F => ?_
        walk_at "gs"
        refine wpAny_For ?_ (by intro _; rfl)
        refine callT F G (bn_range G) bv_range ?_
        walk_at "gs"
        refine rg1 fun r35 h35 tk35 u35 v35 t35 k35 n35 => ?_
        refine itr1 (n := 5) n35.2 (by rfl) (by decide) (by decide) fun I36 h36 k36 n36 s36 => ?_
        replace F := (F.kp k35).its k36 n36
        have e1 : ((sh ss k : Nat) : Int) - 1 = ((sh ss k - 1 : Nat) : Int) := by (first | lia | omega)
        refine forD (src := []) (fun n l N _ => ∀ G : Prop, (lk l "grid" = some (.ref D) → lk l "sizes" = some (.ref ax) → lk l "bag" = some (.ref x) → ∀ t, lk l "row" = some (.int (k : Nat) t) → ∀ i j gc N2, ∀ t, lk l "i" = some (.int (i : Nat) t) → ∀ t, lk l "j" = some (.int (j : Nat) t) → N = Is ++ (lx, lisO bvs bn) :: (Tt ++ N2) → GrN D m (sh ss) ss.length gc N2 → TakeP (sh ss) gc i j (5 - n) d c g2 → G) → G)
          (Dr.range rfl) F s36 (fun _ kZ => kZ l1 l2 l3 tr l4 k (sh ss k - 1) g' _ tr rfl _ (by rw [← e1]; rfl) rfl GX TP) (fun _ _ _ _ _ q hq => nomatch hq) ?_ ?_
        · clear F GX hg1 hg2 hlo hri hrl2 hrj mR l1 l2 l3 l4
          rintro n b l N Is5 h28 tkj tk28 _ _ hn hbI hS5 t27 t28 hJJ F
          refine drT hbI F fun tn F => ?_
          refine hJJ _ fun l1 l2 l3 tr l4 i j gc N2 ti l7 tj l8 hN GX TP => ?_
          replace F := F.eqA hN
          obtain ⟨kn, hkn⟩ : ∃ kn, 5 - n = kn + 1 := ⟨5 - n - 1, by (first | lia | omega)⟩
          rw [hkn] at TP
          have hjs := TP.pos
          have hiR : i < ss.length := S.lt hjs.1
          have hi3 := S.le3 i
          obtain ⟨Rs, ra, ro, rv, hNe, hRl, hg1, hg2, hlo, hri, hrl, hrj⟩ := GX.get hiR
          subst hNe
          have mR : (ra, ro) ∈ Rs := List.mem_of_getElem? hg2
          have gR : h.get? ra = none := (F.led (ra, ro) (by walk_at "mm")).2.2
          obtain ⟨t30, hv30⟩ := hrj j hjs.1
          walk_at "g"
          refine wpAny_Assign_Name ?_ (by rfl)
          refine midFe F (.bool (decide (0 < j ∧ gc i (j - 1) = gc i j))) ?_ ?_
          · refine BoolOp_and ?_
            walk_at "gs"
            refine iteP (fun hj1 => ?_) fun hj1 => ?_
            · skip
              have hj1 : 0 < j := by have := of_decide_eq_true hj1; (first | lia | omega)
              obtain ⟨t29, hv29⟩ := hrj (j - 1) (by (first | lia | omega))
              refine BoolOp_one ?_
              refine callN F G (gn_eq G) ki_eq fun Qc Kc => ?_
              refine spliced_more ?_ (by rfl)
              refine callN F G (gn_getitem G) ki_getitem fun Qc Kc => ?_
              walk_at "gs"
              refine itL (F.of (q := (D, lisO (Rs.map fun q => .ref q.1) m)) (by walk_at "mm")) (IsLst.of _ _) (Int.natCast_nonneg _) (by (first | lia | omega)) (by rw [Int.toNat_natCast]; exact hg1) ?_
              walk_at "gs"
              refine CN.mk F.keep ?_
              refine Fn.vF (t_getitem (G.keeps F.keep) (F.of (q := (ra, ro)) (by walk_at "mm")) hlo _ _ (by (first | lia | omega)) (by (first | lia | omega)) (by rw [show ((j : Int) - 1).toNat = j - 1 by (first | lia | omega)]; exact hv29)) F (by (first | lia | omega)) (by (first | lia | omega)) fun h31 tk31 t31 F => ?_
              refine Le.go Kc ?_
              try clear Kc Qc
              try dsimp only
              walk_at "gs"
              refine itL (F.of (q := (D, lisO (Rs.map fun q => .ref q.1) m)) (by walk_at "mm")) (IsLst.of _ _) (Int.natCast_nonneg _) (by (first | lia | omega)) (by rw [Int.toNat_natCast]; exact hg1) ?_
              walk_at "gs"
              refine itL (F.of (q := (ra, ro)) (by walk_at "mm")) hlo (Int.natCast_nonneg _) (by (first | lia | omega)) (by rw [Int.toNat_natCast]; exact hv30) ?_
              walk_at "gs"
              refine CN.mk F.keep ?_
              refine Fn.vF (t_eq (G.keeps F.keep) _ _ _ _) F (by (first | lia | omega)) (by (first | lia | omega)) fun h32 tk32 t32 F => ?_
              refine Le.go Kc ?_
              try clear Kc Qc
              try dsimp only
              refine MidF.mk (by (first | lia | omega)) F ?_
              by_cases he : gc i (j - 1) = gc i j
              · have : ((gc i (j - 1) : Int) == (gc i j : Int)) = true := by rw [beq_iff_eq]; (first | lia | omega)
                rw [this, decide_eq_true ⟨hj1, he⟩]
              · have : ((gc i (j - 1) : Int) == (gc i j : Int)) = false := by
                  rw [beq_eq_false_iff_ne]; (first | lia | omega)
                rw [this, decide_eq_false fun z => he z.2]
            · skip
              have hj1 : ¬ 0 < j := fun z => hj1 (decide_eq_true (by (first | lia | omega)))
              refine MidF.mk (by (first | lia | omega)) F ?_
              rw [decide_eq_false (by (first | lia | omega) : ¬ ((j : Int) > 0)), decide_eq_false (fun z => hj1 z.1)]
          intro h33 tk33 t33 F
          walk_at "g"
          replace F := (‹Fm _ _ _ _ _› : Fm _ L _ _ _)
          walk_at "g"
          refine wpAny_Assign_Name ?_ (by rfl)
          refine midFe F (.bool (decide (j < sh ss (i + 1)))) ?_ ?_
          · refine BoolOp_and ?_
            walk_at "gs"
            refine callB F G (bn_len G) bv_len ?_
            walk_at "gs"
            refine lenL (F.keep _ _ el) hl (by (first | lia | omega)) fun t7 tk7 t8 => ?_
            walk_at "gs"
            refine iteP (fun hd1 => ?_) fun hd1 => ?_
            · skip
              have hd1 : i + 1 < ss.length := by have := of_decide_eq_true hd1; (first | lia | omega)
              obtain ⟨tsi, hsi⟩ := hsv (i + 1) hd1
              refine BoolOp_one ?_
              walk_at "gs"
              refine itL (F.keep _ _ el) hl (by (first | lia | omega)) (by (first | lia | omega)) (by rw [show ((i : Int) + 1).toNat = i + 1 by (first | lia | omega)]; exact hsi) ?_
              walk_at "gs"
              refine MidF.mk (by (first | lia | omega)) F ?_
              by_cases hjd : j < sh ss (i + 1)
              · rw [decide_eq_true hjd, decide_eq_true (by (first | lia | omega))]
              · rw [decide_eq_false hjd, decide_eq_false (by (first | lia | omega))]
            · skip
              have hd1 : ¬ i + 1 < ss.length := fun z => hd1 (decide_eq_true (by (first | lia | omega)))
              have hd2 := S.hR (i + 1) (by (first | lia | omega))
              refine MidF.mk (by (first | lia | omega)) F ?_
              rw [decide_eq_false (by (first | lia | omega) : ¬ j < sh ss (i + 1)), decide_eq_false (by (first | lia | omega))]
          intro h34 tk34 t34 F
          walk_at "g"
          replace F := (‹Fm _ _ _ _ _› : Fm _ L _ _ _)
          walk_at "g"
          refine wpAny_Expr_any ?_
          refine callN F G (gn_setitem G) ki_setitem fun Qc Kc => ?_
          walk_at "gs"
          refine itL (F.of (q := (D, lisO (Rs.map fun q => .ref q.1) m)) (by walk_at "mm")) (IsLst.of _ _) (Int.natCast_nonneg _) (by (first | lia | omega)) (by rw [Int.toNat_natCast]; exact hg1) ?_
          refine spliced_more ?_ (by rfl)
          walk_at "ge"
          refine spliced_more ?_ (by rfl)
          refine callN F G (gn_sub G) ki_sub fun Qc Kc => ?_
          walk_at "gs"
          refine itL (F.of (q := (D, lisO (Rs.map fun q => .ref q.1) m)) (by walk_at "mm")) (IsLst.of _ _) (Int.natCast_nonneg _) (by (first | lia | omega)) (by rw [Int.toNat_natCast]; exact hg1) ?_
          walk_at "gs"
          refine itL (F.of (q := (ra, ro)) (by walk_at "mm")) hlo (Int.natCast_nonneg _) (by (first | lia | omega)) (by rw [Int.toNat_natCast]; exact hv30) ?_
          walk_at "gs"
          refine CN.mk F.keep ?_
          refine Fn.iF (t_sub (G.keeps F.keep) _ _ _ _) F (by (first | lia | omega)) (by (first | lia | omega)) fun h34 tk34 t35 t34 F => ?_
          refine Le.go Kc ?_
          try clear Kc Qc
          try dsimp only
          walk_at "gs"
          refine CN.mk F.keep ?_
          have ev : ((gc i j : Nat) : Int) - 1 = ((gc i j - 1 : Nat) : Int) := by have := hjs.2; (first | lia | omega)
          rw [ev]
          refine t_setitem (G.keeps (kp_but F.keep (fun b hb => by rw [List.mem_singleton.mp hb]; exact gR))) (F.of (q := (ra, ro)) (by walk_at "mm")) hlo _ _ (Int.natCast_nonneg _) (by have := hjs.1; (first | lia | omega)) (by (first | lia | omega)) (dp + 1) (un + 3) fr' gd _ _ (by (first | lia | omega)) (by (first | lia | omega)) ?_
          rintro r36 h36 tk36 t36 kx36 ⟨rfl, o36, e36, hl36⟩
          refine Le.go Kc ?_
          try clear Kc Qc
          try dsimp only
          rw [Int.toNat_natCast] at hl36
          have eN : Is5 ++ (Is ++ (lx, lisO bvs bn) :: (Tt ++ (D, lisO (Rs.map fun q => .ref q.1) m) :: Rs)) = (Is5 ++ (Is ++ (lx, lisO bvs bn) :: Tt)) ++ (D, lisO (Rs.map fun q => .ref q.1) m) :: Rs := by simp
          rw [eN] at F
          obtain ⟨N3, GX, F⟩ := GX.upd (v := gc i j - 1) hg2 hri (rowL_dcr _ gc i j) (fun b hb => (rowL_off _ gc hb).2) F kx36 e36 hl36
          simp only [List.append_assoc, List.cons_append] at F
          walk_at "g"
          refine wpAny_If ?_
          refine midVe (decide (¬ (0 < j ∧ gc i (j - 1) = gc i j) ∧ ¬ j < sh ss (i + 1))) ?_ ?_
          · walk_at "gs"
            refine iteP (fun hl1 => ?_) fun hl1 => ?_
            · skip
              have hl1 : ¬ (0 < j ∧ gc i (j - 1) = gc i j) := fun z => by rw [decide_eq_true z] at hl1; exact Bool.noConfusion hl1
              walk_at "gs"
              refine iteP (fun hd1 => ?_) fun hd1 => ?_
              · skip
                have hd1 : ¬ j < sh ss (i + 1) := by simpa using hd1
                walk_at "gs"
                exact MidV.mk (by (first | lia | omega)) ((decide_eq_true ⟨hl1, hd1⟩).symm)
              · skip
                have hd1 : j < sh ss (i + 1) := by simpa using hd1
                exact MidV.mk (by (first | lia | omega)) ((decide_eq_false fun z => z.2 hd1).symm)
            · skip
              have hl1 : 0 < j ∧ gc i (j - 1) = gc i j := Decidable.byContradiction fun z => hl1 (by rw [decide_eq_false z]; rfl)
              exact MidV.mk (by (first | lia | omega)) ((decide_eq_false fun z => z.1 hl1).symm)
          intro tk37 t37
          by_cases hst : ¬ (0 < j ∧ gc i (j - 1) = gc i j) ∧ ¬ j < sh ss (i + 1)
          · refine iteT (decide_eq_true hst) ?_
            have ⟨ejc, eg2⟩ := TP.at_stop hst
            rw [← eg2] at GX
            walk_at "gs"
            replace F := F.sub (List.sublist_append_right Is5 _)
            show Qz _ _
            walk_at "gK"
            refine wpAny_Expr_any ?_
            refine MethodCall_ ?_
            walk_at "gs"
            have Hh : Hd h36 x dx lx := ⟨F.of (q := (x, instObj 280 dx)) (by walk_at "mm"), hsh, kd, F.of (q := (dx, hdD hsh kd (.ref lx))) (by walk_at "mm")⟩
            refine r_mthH G F.keep Hh (f := 277) (by kernel_rfl) (by kernel_rfl) (hd_sh lx _ (by decide)) ?_
            refine callWith_K (h₀ := h) G.K ki_addh ?_
            refine spliced_more ?_ (by rfl)
            refine Subscript_ ?_
            refine List_ ?_
            refine spliced_more ?_ (by rfl)
            refine cstr fun ta1 tka1 q1 q1' => ?_
            refine spliced_more ?_ (by rfl)
            refine cstr fun ta2 tka2 q2 q2' => ?_
            refine spliced_more ?_ (by rfl)
            refine cstr fun ta3 tka3 q3 q3' => ?_
            refine spliced_none ?_
            refine mkL F (by show 3 ≤ sizeLine; decide) fun lx2 h38 _ _ F => ?_
            walk_at "gs"
            have hk3 : k < 3 := by (first | lia | omega)
            obtain ⟨tn, hn1, hn2, hn3⟩ := nm3 q1 q1' q2 q2' q3 q3' k hk3
            refine itL (F.of (.head _)) (IsLst.of _ _) (Int.natCast_nonneg _) (by (first | lia | omega)) (by rw [Int.toNat_natCast]; exact hn1) ?_
            refine spliced_more ?_ (by rfl)
            refine wpAny_BinOp ?_
            refine cstr fun tx1 tkx1 q4 q4' => ?_
            walk_at "gs"
            rename_i _ _ hx1 _ tkx3 hx2
            have hj3 : j < 3 := by have := S.le3 i; have := hjs.1; (first | lia | omega)
            rw [show ((j : Int) + 1) = ((j + 1 : Nat) : Int) from rfl]
            refine r_smul (n := j + 1) (by (first | lia | omega)) (by show 1 * (j + 1) ≤ 1000; (first | lia | omega)) (by decide) (Nat.le_trans q4' (by (first | lia | omega))) rp_one.2.2.1 fun tx tk39 t39 q5 q6 => ?_
            walk_at "gs"
            refine ⟨G.K.keeps F.keep, ?_⟩
            replace F := F.sub (List.sublist_cons_self _ _)
            have glx : h.get? lx = none := (F.led (lx, lisO bvs bn) (by walk_at "mm")).2.2
            have hnm := nmT_ok k hk3
            have hxx := rp_low j hj3
            have hbl : bvs.length = done.length := by rw [RT.length, List.length_map]
            have hdl : done.length ≤ ops.length := by rw [hop, List.length_append]; (first | lia | omega)
            refine t_addh x dx lx (vs := bvs) (kk := bn) (G.keeps (kp_but F.keep (fun b hb => by rw [List.mem_singleton.mp hb]; exact glx)))
              ⟨hideAll_get _ (F.of (q := (x, instObj 280 dx)) (by walk_at "mm")) (by simpa using d1.symm), hsh, kd, hideAll_get _ (F.of (q := (dx, hdD hsh kd (.ref lx))) (by walk_at "mm")) (by simpa using d2.symm)⟩
              (F.of (q := (lx, lisO bvs bn)) (by walk_at "mm")) (nmT k) (rp "x" (j + 1)) tn tx hnm.1 hxx.2.2.2.2.1 hnm.2.2 (by rw [hxx.2.2.2.2.2.2.2]; (first | lia | omega)) (by (first | lia | omega)) (dp + 1) (un + 3) fr' gd _ _ (by (first | lia | omega)) (by (first | lia | omega)) ?_
            rintro r40 h40 tk40 t40 kx40 ⟨ta, k', j', e40, n40⟩
            replace F := (F.perm List.perm_middle).updNew kx40 e40 n40
            replace F := F.perm (show List.Perm _ (Is ++ (lx, lisO (bvs ++ [.ref ta]) k') :: (((ta, tupO [.str (nmT k) tn, .str (rp "x" (j + 1)) tx] j') :: Tt) ++ N3)) from (List.Perm.swap _ _ _).trans ((List.Perm.cons _ (by rw [List.cons_append]; exact List.perm_middle.symm)).trans List.perm_middle.symm))
            walk_at "gs"
            refine WhD.next F ⟨rest'.length, by rw [← hrq, hop']; exact Nat.lt_succ_self _, fun _ kZ => kZ l1 l2 l3 tr l4 _ (done ++ [(k, j)]) rest' _ k' _ N3 rfl GX T rfl (by rw [hop, hop', ejc, List.append_assoc]; rfl) ?_ (.tail _ mx) (.tail _ md)⟩
            rw [List.map_append]
            refine (RT.mono (fun a o hm => List.Mem.tail _ hm) (by (first | lia | omega))).snoc (.tuple (.head _) (.cons (.str _ _ (Nat.ne_of_gt hn2) (Nat.le_trans hn3 (by (first | lia | omega)))) (.cons (.str _ _ (Nat.ne_of_gt (Nat.lt_of_lt_of_le (Nat.lt_of_le_of_lt (Nat.zero_le _) q4) q5)) (Nat.le_trans q6 (by (first | lia | omega)))) .nil)))
          · refine iteD hst ?_
            walk_at "gs"
            refine asgU rfl ?_
            walk_at "gs"
            refine iteP (fun hri2 => ?_) fun hri2 => ?_
            · skip
              have hri2 := of_decide_eq_true hri2
              refine TP.go_left hri2 fun j' hj' TP2 => ?_
              walk_at "gs"
              refine mkT F (by show 2 ≤ sizeLine; decide) fun ta h38 _ _ F => ?_
              refine AU.mk F (F.of (.head _)) fun h39 tk39 t39 F => ?_
              walk_at "gs"
              exact TnD.next (F.sub (List.sublist_cons_self _ _)) (fun _ kZ => kZ l1 l2 l3 tr l4 i j' _ N3 _ rfl _ (by rw [show (j' : Int) = (j : Int) - 1 by (first | lia | omega)]; rfl) rfl GX (by rw [show 5 - (n + 1) = kn by (first | lia | omega)]; exact TP2))
            · skip
              have hri2 : ¬ (0 < j ∧ gc i (j - 1) = gc i j) := fun z => hri2 (decide_eq_true z)
              have TP2 := TP.go_down hst hri2
              walk_at "gs"
              refine mkT F (by show 2 ≤ sizeLine; decide) fun ta h38 _ _ F => ?_
              refine AU.mk F (F.of (.head _)) fun h39 tk39 t39 F => ?_
              walk_at "gs"
              exact TnD.next (F.sub (List.sublist_cons_self _ _)) (fun _ kZ => kZ l1 l2 l3 tr l4 (i + 1) j _ N3 _ rfl _ rfl rfl GX (by rw [show 5 - (n + 1) = kn by (first | lia | omega)]; exact TP2))
        · rintro l N h28 tkj tk28 t27 t28 hJJ F
          refine hJJ _ fun l1 l2 l3 tr l4 i j gc N2 _ _ _ _ hN GX TP => ?_
          replace F := F.eqN hN
          exact TP.no0
      · refine iteD h0 ?_
        walk_at "gs"
        exact TnD.next F (fun _ kZ => kZ l1 l2 l3 g' done rest bvs bn Tt _ rfl GX (T.pass hk h0) hop (RT.mono (fun _ _ h => h) (by (first | lia | omega))) mx md)
    · rintro l N h28 tkj tk28 t27 t28 hJJ F
      refine hJJ _ fun l1 l2 l3 g' done rest bvs bn Tt N2 hN GX T hop RT mx md => ?_
      replace F := F.eqN hN
      try dsimp only
      walk_at "gs"
      rw [T.fin, List.append_nil] at hop
      have c1 := F.led (x, instObj 280 dx) (by walk_at "mm")
      have c2 := F.led (dx, hdD hsh kd (.ref lx)) (by walk_at "mm")
      have c3 := F.led (lx, lisO bvs bn) (.head _)
      refine H _ _ _ (by (first | lia | omega)) (fun b o _ => F.keep b o) ⟨x, dx, lx, bn, bvs, rfl, ⟨c1.2.2, c1.1⟩, ⟨hsh, kd, c2.2.2, c2.1⟩, ⟨c3.2.2, c3.1⟩, hop ▸ RT.mono (fun a o hm => ?_) (by (first | lia | omega))⟩
      have c := F.led (a, o) (by have : (a, o) ∈ Tt := hm; walk_at "mm")
      exact ⟨c.2.2, c.1⟩
end
noncomputable def extP (r c ab : Nat) (p : List Nat) : List (List Nat) := ((List.range (4 - p.sum)).filter (fun e => (c == 0 || decide (p.getD (p.length - 1) 0 ≤ e)) && (r == 0 || decide (p.getD ab 0 ≤ e)))).map (fun e => p ++ [e])
noncomputable def abv (boxes : List (Nat × Nat)) (r c : Nat) : Nat := if 0 < r then boxes.idxOf (r - 1, c) else 0
noncomputable def stepP (boxes : List (Nat × Nat)) (ps : List (List Nat)) (b : Nat × Nat) : List (List Nat) := ps.flatMap (extP b.1 b.2 (abv boxes b.1 b.2))
noncomputable def foundP (boxes : List (Nat × Nat)) (k : Nat) : List (List Nat) := (boxes.take k).foldl (stepP boxes) [[]]
noncomputable def countsP (boxes : List (Nat × Nat)) : List Nat := (List.range 4).map fun t => ((foundP boxes boxes.length).filter (fun p => p.sum == t)).length
theorem mem_extP {r c ab : Nat} {p q : List Nat} (h : q ∈ extP r c ab p) : ∃ e, q = p ++ [e] ∧ e < 4 - p.sum := by
  obtain ⟨e, he, rfl⟩ := List.mem_map.mp h
  exact ⟨e, rfl, List.mem_range.mp (List.mem_filter.mp he).1⟩
theorem foundP_succ {boxes : List (Nat × Nat)} {k : Nat} {b : Nat × Nat} (h : boxes[k]? = some b) : foundP boxes (k + 1) = (foundP boxes k).flatMap (extP b.1 b.2 (abv boxes b.1 b.2)) := by
  unfold foundP
  rw [List.take_add_one, h, List.foldl_append]; rfl
theorem found_inv {boxes : List (Nat × Nat)} : ∀ k, k ≤ boxes.length → ∀ p ∈ foundP boxes k, p.length = k ∧ p.sum ≤ 3 := by
  intro k
  induction k with
  | zero => intro _ p hp; simp [foundP] at hp; subst hp; exact ⟨rfl, by simp⟩
  | succ k ih =>
    intro hk p hp
    obtain ⟨b, hb⟩ : ∃ b, boxes[k]? = some b := ⟨boxes[k]'(by (first | lia | omega)), by simp⟩
    rw [foundP_succ hb] at hp
    obtain ⟨q, hq, hp⟩ := List.mem_flatMap.mp hp
    obtain ⟨e, rfl, he⟩ := mem_extP hp
    have := ih (by (first | lia | omega)) q hq
    rw [List.length_append, List.sum_append]
    simp
    (first | lia | omega)
theorem extP_len {r c ab : Nat} {p : List Nat} : (extP r c ab p).length ≤ 4 := by
  unfold extP
  rw [List.length_map]
  refine Nat.le_trans (List.length_filter_le _ _) ?_
  rw [List.length_range]; (first | lia | omega)
theorem flat_len {r c ab : Nat} : ∀ ps : List (List Nat), (ps.flatMap (extP r c ab)).length ≤ 4 * ps.length
  | [] => Nat.le_refl _
  | p :: ps => by
    rw [List.flatMap_cons, List.length_append, List.length_cons]
    have := flat_len (r := r) (c := c) (ab := ab) ps
    have := extP_len (r := r) (c := c) (ab := ab) (p := p)
    (first | lia | omega)
theorem found_len {boxes : List (Nat × Nat)} : ∀ k, k ≤ boxes.length → (foundP boxes k).length ≤ 4 ^ k := by
  intro k
  induction k with
  | zero => intro _; simp [foundP]
  | succ k ih =>
    intro hk
    obtain ⟨b, hb⟩ : ∃ b, boxes[k]? = some b := ⟨boxes[k]'(by (first | lia | omega)), by simp⟩
    rw [foundP_succ hb]
    have := ih (by (first | lia | omega))
    have := flat_len (r := b.1) (c := b.2) (ab := abv boxes b.1 b.2) (foundP boxes k)
    rw [Nat.pow_succ]; (first | lia | omega)
section
variable {w : World} {loose : List Str} {mean : ExcName → Option Value} {mg mb : Str → Option Value} {h : Heap} {tk : Nat}
theorem t_counts (G : Gd w loose mean mg mb h) {bx : Addr} {nb : Nat} {vs : List Value} {boxes : List (Nat × Nat)} (el : h.get? bx = some (lisO vs nb)) (ra : RA (At h) 0 vs (boxes.map pairD)) (hb9 : boxes.length ≤ 9)
    (hbx : ∀ (k : Nat) (b : Nat × Nat), boxes[k]? = some b → (b.2 = 0 ∨ 0 < k) ∧ (b.1 = 0 ∨ boxes.idxOf (b.1 - 1, b.2) < k)) :
    Fn w (.ref 316) [.ref bx] 8 100 [] h tk (fun r h' _ => ∃ a n ws, r = .ref a ∧ New h h' a (lisO ws n) ∧ IntsAre ws ((countsP boxes).map fun d : Nat => (d : Int))) := by
  intro dp un fr gd s₀ Q hd hu H
  have hl : IsLst (lisO vs nb) vs := IsLst.of _ _
  obtain ⟨src, snd, ssrc, ras⟩ := RA.led (fun a o o' (e1 : h.get? a = some o) e2 => Option.some.inj (e1.symm.trans e2)) ra
  have hvl : vs.length = boxes.length := by rw [ra.length, List.length_map]
  refine enterC (N := []) [("boxes", .ref bx)] G (fun _ _ e => e) (fun _ hq => nomatch hq) List.nodup_nil (by rfl) (by rfl) (by (first | lia | omega)) (BindsTo.of_eq (by rfl)) (by rfl) (by decide) (fun _ => bindL_of) ?_ (by rfl) (by rfl) (by rfl)
  intro fr' L h₁ tk₁ Cs t₁ hC F
  obtain ⟨o1, o2, o3, o4, rfl, d1, d2, d3, d4⟩ := CellsAre.four hC
  replace d1 : o1.data = .cell none := d1
  replace d2 : o2.data = .cell none := d2
  replace d3 : o3.data = .cell none := d3
  replace d4 : o4.data = .cell none := d4
  walk_at "gs"
  refine mkT F (by show 0 ≤ sizeLine; decide) fun ea h2 _ _ F => ?_
  walk_at "gs"
  refine mkL F (by show 1 ≤ sizeLine; decide) fun fa h3 _ _ F => ?_
  replace F := F.pull 5 (q := (L + 1, o4))
  with_reducible refine' stC ?hc ?F ?hd ?_ ?hk ?hx
  case F => exact F
  case hd => exact d4
  case hc => rfl
  case hk => rfl
  case hx => rfl
  intro h4 o4' d4' F
  replace F : Fm _ L _ _ _ := F
  simp only [List.eraseIdx, List.append_nil] at F
  walk_at "gs"
  refine wpAny_For ?_ (by intro _; rfl)
  walk_at "gs"
  refine itrL (F.keep _ _ el) hl fun I h5 k5 n5 s5 => ?_
  replace F := F.its k5 n5
  replace F := F.perm (show List.Perm _ ([(I, liO bx 0), (L + 2, o3), (L + 3, o2)] ++ (L + 1, o4') :: (L + 4, o1) :: (fa, lisO [.ref ea] 0) :: [(ea, tupO [] 0)]) from by
    refine List.Perm.cons _ ?_
    refine (perm_idx _ 5 (q := (L + 2, o3)) rfl).trans (List.Perm.cons _ ?_)
    refine (perm_idx _ 4 (q := (L + 3, o2)) rfl).trans (List.Perm.cons _ ?_)
    refine List.Perm.cons _ ?_
    exact perm_idx _ 2 (q := (L + 4, o1)) rfl)
  refine forD (src := (bx, lisO vs nb) :: src) (fun k l N _ => ∀ G : Prop, (lk l "boxes" = some (.ref bx) → ∀ fo ao fa n fvs T, N = (L + 1, fo) :: (L + 4, ao) :: (fa, lisO fvs n) :: T → fo.data = .cell (some (.ref fa)) → IsCell ao → RA (In T) 0 fvs ((foundP boxes k).map partD) → G) → G)
    (Dr.pairsC (cx := L + 2) (cy := L + 3) hl (by rfl) (by rfl) rfl src ras.prs) F ⟨_, _, _, rfl, rfl, rfl, ⟨_, d3⟩, ⟨_, d2⟩, fun i' e => by (first | lia | omega)⟩
    (fun _ kZ => kZ rfl o4' o1 fa 0 [.ref ea] [(ea, tupO [] 0)] rfl d4' ⟨_, d1⟩ (.cons (.tuple (.head _) .nil) .nil)) (fun _ _ _ _ _ q hq => ?_) ?_ ?_
  · rcases List.mem_cons.mp hq with rfl | hq
    · exact .inl el
    · exact .inl (ssrc q hq)
  · rintro k b l N Is h6 tkj tk6 _ _ hk rfl ⟨oI, ox, oy, rfl, oI1, oI2, ⟨vx, dx⟩, ⟨vy, dy⟩, hS⟩ t5 t6 hJJ F
    refine hJJ _ fun l1 fo ao fa n fvs T hN dfo dao RF => ?_
    replace F := F.eqA hN
    obtain ⟨a, na, v1, v2, hv, hsrc, dx, dy⟩ := hS k rfl
    obtain ⟨⟨r, c⟩, hbk⟩ : ∃ b, boxes[k]? = some b := ⟨boxes[k]'(by (first | lia | omega)), by simp⟩
    obtain ⟨bc, bab⟩ := hbx k _ hbk
    refine ras.pr2 ssrc hv hsrc hbk fun tr tc ev1 ev2 => ?_
    rw [ev1] at dx
    rw [ev2] at dy
    clear ev1 ev2
    have kc : ∀ d ∈ boxes.map pairD, kqdOk 9 d = true := by
      intro d hd
      obtain ⟨b, _, rfl⟩ := List.mem_map.mp hd
      simp [kqdOk]
    walk_at "g"
    walk_at "g"
    refine midF F (R := fun v => ∃ t, v = .int ((abv boxes r c : Nat) : Int) t) ?_ ?_
    · walk_at "gs"
      refine nmC (by rfl) (F.of (q := (L + 2, ox)) (by walk_at "mm")) dx ?_
      walk_at "gs"
      refine iteP (fun hr0 => ?_) fun hr0 => ?_
      · skip
        have hr0 : 0 < r := by have := of_decide_eq_true hr0; (first | lia | omega)
        have hj : boxes.idxOf (r - 1, c) < k := bab.resolve_left (by show ¬ r = 0; (first | lia | omega))
        refine MethodCall_ ?_
        walk_at "gs"
        refine getMethod_builtin (T := "list") ⟨_, F.keep _ _ el, rfl⟩ PySem.F.plainAttrs_list PySem.F.slot_list_index PySem.F.type_list_index (fun a ha => by cases ha; exact ⟨_, F.keep _ _ el, rfl⟩) ?_
        refine cw1 ?_
        walk_at "gs"
        refine nmC (by rfl) (F.of (q := (L + 2, ox)) (by walk_at "mm")) dx ?_
        walk_at "gs"
        refine nmC (by rfl) (F.of (q := (L + 3, oy)) (by walk_at "mm")) dy ?_
        walk_at "gs"
        refine mkT F (by show 2 ≤ sizeLine; decide) fun ta h7 _ _ F => ?_
        refine r_index (B' := 0) (d := pairD (r - 1, c)) (j := boxes.idxOf (r - 1, c)) (F.keep _ _ el) hl (ra.mono (fun a o e => F.keep _ _ e) (Nat.le_refl _)) (.tuple (F.of (.head _)) (.cons (by rw [show (r : Int) - 1 = ((r - 1 : Nat) : Int) by (first | lia | omega)]; exact .int _ _) (.cons (.int _ _) .nil))) kc (by simp [kqdOk]) (by show un + 3 + 64 < cLine; (first | lia | omega)) ?_ ?_ (by (first | lia | omega)) fun t7 tk7 t8 => ?_
        · have hlt : boxes.idxOf (r - 1, c) < boxes.length := by (first | lia | omega)
          rw [List.getElem?_map, List.getElem?_eq_getElem hlt, List.getElem_idxOf hlt]; rfl
        · intro m hm e
          rw [List.getElem?_map, Option.map_eq_some_iff] at e
          obtain ⟨⟨r', c'⟩, e1, e2⟩ := e
          have e3 : r' = r - 1 ∧ c' = c := by
            simp only [Dat.tuple.injEq, List.cons.injEq, Dat.int.injEq, Int.ofNat_inj, and_true] at e2
            exact e2
          obtain ⟨rfl, rfl⟩ := e3
          obtain ⟨hml, hme⟩ := List.getElem?_eq_some_iff.mp e1
          have := List.not_of_lt_findIdx (p := (· == (r - 1, c'))) (xs := boxes) (i := m) hm
          rw [hme] at this
          simp at this
        · refine MidF.mk (by (first | lia | omega)) (F.sub (List.sublist_cons_self _ _)) ⟨t7, ?_⟩
          simp [abv, hr0]
      · skip
        have hr0 : ¬ 0 < r := fun z => hr0 (decide_eq_true (by (first | lia | omega)))
        walk_at "gs"
        have ha : abv boxes r c = 0 := by simp [abv, hr0]
        rw [ha]
        exact MidF.mk (by (first | lia | omega)) F ⟨_, rfl⟩
    rintro v h8 tk8 t8 F ⟨tab, rfl⟩
    obtain ⟨vao, dao⟩ := dao
    replace F := F.pull 4 (q := (L + 4, ao))
    with_reducible refine' stC ?hc ?F ?hd ?_ ?hk ?hx
    case F => exact F
    case hd => exact dao
    case hc => rfl
    case hk => rfl
    case hx => rfl
    intro h9 ao' dao' F
    replace F : Fm _ L _ _ _ := F
    simp only [List.eraseIdx, List.cons_append, List.nil_append] at F
    walk_at "g"
    walk_at "g"
    refine compE ?_ (by rfl)
    refine nmC (by rfl) (F.of (q := (L + 1, fo)) (by walk_at "mm")) dfo ?_
    refine itrL (F.of (q := (fa, lisO fvs n)) (by walk_at "mm")) (IsLst.of _ _) fun I2 h10 k10 n10 s10 => ?_
    have kr : Cl h9 (L + 2) (.int (r : Int) tr) := ⟨ox, F.of (q := (L + 2, ox)) (by walk_at "mm"), dx⟩
    have kcl : Cl h9 (L + 3) (.int (c : Int) tc) := ⟨oy, F.of (q := (L + 3, oy)) (by walk_at "mm"), dy⟩
    have ka : Cl h9 (L + 4) (.int ((abv boxes r c : Nat) : Int) tab) := ⟨ao', F.of (q := (L + 4, ao')) (by walk_at "mm"), dao'⟩
    have G9 := G.keeps F.keep
    have RF9 : RA (At h9) 0 fvs ((foundP boxes k).map partD) := RF.mono (fun a o hm => F.of (q := (a, o)) (by have : (a, o) ∈ T := hm; walk_at "mm")) (Nat.le_refl _)
    refine compGo0 (S := fun _ => LiIt I2 fa) (cl2 := fun _ => _) (ce := fun _ => []) (fun i l ws N _ => RA (In N) 0 ws ((((foundP boxes k).take i).flatMap (extP r c (abv boxes r c))).map partD)) (fun C D => _) F k10 n10 (List.nodup_cons.mpr ⟨(fun h => nomatch h), List.nodup_nil⟩) (fun C => Dr.list (IsLst.of _ _) rfl) (fun q hq => by rw [List.mem_singleton.mp hq]; exact F.of (q := (fa, lisO fvs n)) (by walk_at "mm"))
      (fun _ => by rw [List.append_nil]; exact s10) .nil (fun C D => .inr ⟨_, _, _, rfl, rfl⟩) ?_ ?_ (fun C => rfl) (fun h C _ => ⟨(fun _ hq => nomatch hq), List.nodup_nil⟩)
    · rintro C D i b l ws m N Is h11 tkj tk11 hi hbI hSI t10 t11 RW F
      refine drV hbI F fun vp hvp F => ?_
      refine wpAny_tests_nil ?_
      refine iteT rfl ?_
      refine nestR ?_
      have hfl : fvs.length = (foundP boxes k).length := by rw [RF.length, List.length_map]
      obtain ⟨p, hp⟩ : ∃ p, (foundP boxes k)[i]? = some p := ⟨(foundP boxes k)[i]'(by (first | lia | omega)), by simp⟩
      obtain ⟨hpl, hps⟩ := found_inv k (by (first | lia | omega)) p (List.mem_of_getElem? hp)
      refine (RF9.at hvp hp).partE fun ap pvs np ev hpm hip => ?_
      replace F := F.val ev
      have hpvl : pvs.length = k := by rw [hip.length, List.length_map, hpl]
      have hfk : (foundP boxes k).length ≤ 4 ^ 9 := Nat.le_trans (found_len k (by (first | lia | omega))) (Nat.pow_le_pow_right (by decide) (by (first | lia | omega)))
      refine callT F G9 (bn_range G9) bv_range ?_
      walk_at "gs"
      refine callB F G9 (bn_sum G9) bv_sum ?_
      walk_at "gs"
      refine r_sumT rfl F (F.keep _ _ hpm) hip fun t12 h12 tk12 t13 k12 F => ?_
      walk_at "gs"
      have hsum : (p.map fun d : Nat => (d : Int)).sum = ((p.sum : Nat) : Int) := by
        clear hp hip hpl hps
        induction p with
        | nil => rfl
        | cons x p ih => rw [List.map_cons, List.sum_cons, List.sum_cons, ih]; (first | lia | omega)
      rw [hsum]
      refine rg1 fun r14 h14 tk14 u14 v14 t14 k14 n14 => ?_
      refine itr1 (n := 4 - p.sum) n14.2 (by (first | lia | omega)) (by (first | lia | omega)) (by (first | lia | omega)) fun I15 h15 k15 n15 s15 => ?_
      replace F := (F.kp k14).its k15 n15
      refine compS (s₀ := s₀) rfl (Dr.range rfl) s15 F ?_
      replace F := F.perm (List.Perm.swap _ _ _)
      refine compL (nx := _) (Is := [(I15, _)]) (N := Is ++ N) (fun j l vs N' _ => lk l "part" = some (.ref ap) ∧ ∃ NT, N' = Is ++ NT ∧ RA (In NT) 0 vs (((((foundP boxes k).take i).flatMap (extP r c (abv boxes r c))) ++ ((((List.range (4 - p.sum)).take j).filter (fun e => (c == 0 || decide (p.getD (p.length - 1) 0 ≤ e)) && (r == 0 || decide (p.getD (abv boxes r c) 0 ≤ e)))).map (fun e => p ++ [e]))).map partD))
        rfl (.inl ⟨rfl, rfl⟩) (Dr.range rfl) (fun _ hq => nomatch hq) F s15 ⟨rfl, N, rfl, by simpa using RW⟩ ?_ ?_
      · rintro j b l vs m N2 Is2 h16 tkj tk16 hj hbI hS2 t15 t16 ⟨l1, NT, hN, RJ⟩ F
        replace F := F.eqB hN
        refine dr0 hbI F fun te F => ?_
        refine wpAny_tests_one ?_
        refine midV (R := fun b' => b' = ((c == 0 || decide (p.getD (p.length - 1) 0 ≤ j)) && (r == 0 || decide (p.getD (abv boxes r c) 0 ≤ j)))) ?_ ?_
        · refine wpAny_isTrue_BoolOp ?_
          refine wpAny_allTrue_And_cons ?_
          refine midV (R := fun b' => b' = (c == 0 || decide (p.getD (p.length - 1) 0 ≤ j))) ?_ ?_
          · walk_at "gs"
            refine iteP (fun hc0 => ?_) fun hc0 => ?_
            · skip
              have hc0 : c = 0 := by have := beq_iff_eq.mp hc0; (first | lia | omega)
              exact MidV.mk (by (first | lia | omega)) (by simp [hc0])
            · skip
              have hc0 : ¬ c = 0 := fun z => hc0 (beq_iff_eq.mpr (by (first | lia | omega)))
              have hk0 : 0 < k := bc.resolve_left hc0
              obtain ⟨z, hz⟩ : ∃ z, p[k - 1]? = some z := ⟨p[k - 1]'(by (first | lia | omega)), by simp⟩
              obtain ⟨tz, hzv⟩ := ints_get hip hz
              walk_at "gs"
              refine itT (j := k - 1) (F.keep _ _ hpm) (by decide) (by decide) (by rw [hpvl]; simp [seqIndex?]; (first | lia | omega)) hzv ?_
              walk_at "gs"
              have hz2 : p.getD (p.length - 1) 0 = z := by rw [hpl]; simp [List.getD, hz]
              have hc0b : (c == 0) = false := by simpa using hc0
              rw [hz2, hc0b]
              refine iteP (fun hzj => ?_) fun hzj => ?_
              · skip
                have hzj : z ≤ j := by have := of_decide_eq_true hzj; (first | lia | omega)
                exact MidV.mk (by (first | lia | omega)) (by simp [hzj])
              · skip
                have hzj : ¬ z ≤ j := fun q => hzj (decide_eq_true (by (first | lia | omega)))
                walk_at "gs"
                exact MidV.mk (by (first | lia | omega)) (by simp [hzj])
          rintro b1 tk17 t17 hb1
          cases b1 with
          | false =>
            refine iteF Bool.false_ne_true ?_
            exact MidV.mk (by (first | lia | omega)) (by rw [← hb1]; rfl)
          | true =>
            rw [if_pos rfl, ← hb1, Bool.true_and]
            refine wpAny_allTrue_And_cons ?_
            refine midV (R := fun b' => b' = (r == 0 || decide (p.getD (abv boxes r c) 0 ≤ j))) ?_ ?_
            · walk_at "gs"
              refine iteP (fun hc0 => ?_) fun hc0 => ?_
              · skip
                have hc0 : r = 0 := by have := beq_iff_eq.mp hc0; (first | lia | omega)
                exact MidV.mk (by (first | lia | omega)) (by simp [hc0])
              · skip
                have hc0 : ¬ r = 0 := fun z => hc0 (beq_iff_eq.mpr (by (first | lia | omega)))
                have hak : abv boxes r c < k := by
                  have : abv boxes r c = boxes.idxOf (r - 1, c) := by unfold abv; rw [if_pos (by (first | lia | omega))]
                  rw [this]; exact bab.resolve_left hc0
                obtain ⟨z, hz⟩ : ∃ z, p[abv boxes r c]? = some z := ⟨p[abv boxes r c]'(by (first | lia | omega)), by simp⟩
                obtain ⟨tz, hzv⟩ := ints_get hip hz
                walk_at "gs"
                refine itT (j := abv boxes r c) (F.keep _ _ hpm) (Int.le_trans (by decide) (Int.natCast_nonneg _)) (by (first | lia | omega)) (by rw [hpvl]; simp [seqIndex?]; (first | lia | omega)) hzv ?_
                walk_at "gs"
                have hz2 : p.getD (abv boxes r c) 0 = z := by simp [List.getD, hz]
                have hc0b : (r == 0) = false := by simpa using hc0
                rw [hz2, hc0b]
                refine iteP (fun hzj => ?_) fun hzj => ?_
                · skip
                  have hzj : z ≤ j := by have := of_decide_eq_true hzj; (first | lia | omega)
                  exact MidV.mk (by (first | lia | omega)) (by simp [hzj])
                · skip
                  have hzj : ¬ z ≤ j := fun q => hzj (decide_eq_true (by (first | lia | omega)))
                  walk_at "gs"
                  exact MidV.mk (by (first | lia | omega)) (by simp [hzj])
            rintro b2 tk18 t18 hb2
            cases b2 with
            | false =>
              refine iteF Bool.false_ne_true ?_
              exact MidV.mk (by (first | lia | omega)) (by rw [← hb2])
            | true =>
              rw [if_pos rfl, ← hb2]
              walk_at "gs"
              exact MidV.mk (by (first | lia | omega)) rfl
        rintro bb tk17 t17 hbb
        have ct : ((List.range (4 - p.sum)).take (j + 1)).filter (fun e => (c == 0 || decide (p.getD (p.length - 1) 0 ≤ e)) && (r == 0 || decide (p.getD (abv boxes r c) 0 ≤ e))) =
            ((List.range (4 - p.sum)).take j).filter (fun e => (c == 0 || decide (p.getD (p.length - 1) 0 ≤ e)) && (r == 0 || decide (p.getD (abv boxes r c) 0 ≤ e))) ++ (if bb = true then [j] else []) := by
          rw [List.take_add_one, List.getElem?_range hj, List.filter_append]
          congr 1
          cases bb <;> simp only [Option.toList, List.filter_cons, ← hbb] <;> rfl
        cases bb with
        | false =>
          refine iteF Bool.false_ne_true ?_
          exact CT.mk (vs := vs) (N := Is ++ NT) t17 F ⟨l1, NT, rfl, by rw [ct]; simpa using RJ⟩
        | true =>
          refine iteT rfl ?_
          refine emitR (L := C) (s₀ := s₀) (g := h9) ?_
          walk_at "gs"
          refine mkT F (by show 1 ≤ sizeLine; decide) fun ta h18 _ _ F => ?_
          refine r_tadd F (F.keep _ _ hpm) (by simp) (by show pvs.length + 1 ≤ sizeLine; exact Nat.le_trans (show pvs.length + 1 ≤ 10 by (first | lia | omega)) (by decide)) fun D2 k2 h19 k19 F => ?_
          have RJl := RJ.length
          rw [List.length_map, List.length_append, List.length_map] at RJl
          have b1 := flat_len (r := r) (c := c) (ab := abv boxes r c) ((foundP boxes k).take i)
          have b2 := List.length_take_le i (foundP boxes k)
          have b3 := List.length_filter_le (fun e => (c == 0 || decide (p.getD (p.length - 1) 0 ≤ e)) && (r == 0 || decide (p.getD (abv boxes r c) 0 ≤ e))) ((List.range (4 - p.sum)).take j)
          have b4 := List.length_take_le j (List.range (4 - p.sum))
          refine ER.mk (vs := vs) (m := m) (N := Is2 ++ (Is ++ (NT ++ [(D2, tupO (pvs ++ [.int (j : Int) te]) k2)]))) (F.perm ?_) (Nat.le_trans (show vs.length ≤ 2000000 by (first | lia | omega)) (by decide)) fun h20 m20 F => CT.mk t17 F ⟨l1, _, rfl, ?_⟩
          · refine (List.Perm.swap _ _ _).trans (List.Perm.cons _ ?_)
            simp only [← List.append_assoc]
            exact (List.perm_append_singleton _ _).symm
          · rw [ct, if_pos rfl, List.map_append (f := fun e => p ++ [e]), ← List.append_assoc, List.map_append (f := partD)]
            refine (RJ.mono (fun a o hm => List.mem_append.mpr (.inl hm)) (Nat.le_refl _)).append (.cons (.tuple (List.mem_append.mpr (.inr (.head _))) ?_) .nil)
            have := RA.ints (H := In (NT ++ [(D2, tupO (pvs ++ [.int (j : Int) te]) k2)])) (B := 0) (hip.append (.cons (j : Int) te .nil))
            have e : (p ++ [j]).map (fun d : Nat => Dat.int (d : Int)) = ((p.map fun d : Nat => (d : Int)) ++ [(j : Int)]).map Dat.int := by simp
            show RA _ 0 _ ((p ++ [j]).map (fun d : Nat => Dat.int (d : Int)))
            rw [e]; exact this
      · rintro l vs m N h16 tkj tk16 t15 t16 ⟨l1, NT, hN, RJ⟩ F
        replace F := F.eqC hN
        refine CT.mk (vs := vs) (N := NT) (by (first | lia | omega)) F ?_
        have e1 : ((foundP boxes k).take (i + 1)).flatMap (extP r c (abv boxes r c)) = ((foundP boxes k).take i).flatMap (extP r c (abv boxes r c)) ++ extP r c (abv boxes r c) p := by
          rw [List.take_add_one, hp, List.flatMap_append]; simp
        rw [e1]
        have e2 : (List.range (4 - p.sum)).take (4 - p.sum) = List.range (4 - p.sum) := List.take_of_length_le (by simp)
        rw [e2] at RJ
        exact RJ
    · rintro C D l' ws m N' h16 tkj tk16 t15 t16 RW F₃
      have hfl : fvs.length = (foundP boxes k).length := by rw [RF.length, List.length_map]
      rw [hfl, List.take_length] at RW
      rw [← foundP_succ (b := (r, c)) hbk] at RW
      refine postV F F₃ fun h17 F => ?_
      replace F := F.pull 4 (q := (L + 1, fo))
      with_reducible refine' stC ?hc ?F ?hd ?_ ?hk ?hx
      case F => exact F
      case hd => exact dfo
      case hc => rfl
      case hk => rfl
      case hx => rfl
      intro h18 fo' dfo' F
      replace F : Fm _ L _ _ _ := F
      simp only [List.eraseIdx, List.cons_append, List.nil_append] at F
      walk_at "gs"
      replace F := F.perm (show List.Perm _ ([(I, oI), (L + 2, ox), (L + 3, oy), (L + 1, fo'), (L + 4, ao')] ++ ((fa, lisO fvs n) :: T ++ (D, lisO ws m) :: N')) from by
        refine ((perm_idx _ 2 (q := (I, oI)) rfl)).trans (List.Perm.cons _ ?_)
        refine ((perm_idx _ 2 (q := (L + 2, ox)) rfl)).trans (List.Perm.cons _ ?_)
        refine ((perm_idx _ 2 (q := (L + 3, oy)) rfl)).trans (List.Perm.cons _ ?_)
        exact List.Perm.refl _)
      replace F := F.sub ((List.Sublist.refl [(I, oI), (L + 2, ox), (L + 3, oy), (L + 1, fo'), (L + 4, ao')]).append (List.sublist_append_right ((fa, lisO fvs n) :: T) _))
      exact TnD.next (Is := [(I, oI), (L + 2, ox), (L + 3, oy)]) (N := (L + 1, fo') :: (L + 4, ao') :: (D, lisO ws m) :: N') F (fun _ kZ => kZ l1 fo' ao' D m ws N' rfl dfo' ⟨_, dao'⟩ RW)
  · rintro l N h6 tkj tk6 t5 t6 hJJ F
    refine hJJ _ fun l1 fo ao fa n fvs T hN dfo dao RF => ?_
    replace F := F.eqN hN
    try dsimp only
    rw [hvl] at RF
    walk_at "gs"
    have kf : Cl h6 (L + 1) (.ref fa) := ⟨fo, F.of (q := (L + 1, fo)) (by walk_at "mm"), dfo⟩
    have e6 := F.of (q := (fa, lisO fvs n)) (by walk_at "mm")
    have RF6 : RA (At h6) 0 fvs ((foundP boxes boxes.length).map partD) := RF.mono (fun a o hm => F.of (q := (a, o)) (by have : (a, o) ∈ T := hm; walk_at "mm")) (Nat.le_refl _)
    have hfl : fvs.length = (foundP boxes boxes.length).length := by rw [RF.length, List.length_map]
    have hfk : (foundP boxes boxes.length).length ≤ 4 ^ 9 := Nat.le_trans (found_len _ (Nat.le_refl _)) (Nat.pow_le_pow_right (by decide) (by (first | lia | omega)))
    refine compE ?_ (by rfl)
    refine callT F G (bn_range G) bv_range ?_
    walk_at "gs"
    refine rg1 fun r h7 tk7 u7 v7 t7 k7 n7 => ?_
    refine itr1 (n := 4) n7.2 (by rfl) (by decide) (by decide) fun I h8 k8 n8 s8 => ?_
    replace F := F.kp k7
    have e7 := k7 _ _ e6
    have RF7 := RF6.mono (H' := At h7) (fun a o e => k7 _ _ e) (Nat.le_refl 0)
    have kf7 := kf.keeps k7
    have G7 := G.keeps F.keep
    clear e6 RF6 kf k7
    refine compGo0 (S := fun C => RgC I (C + 1) 0 1 4) (cl2 := fun C => _) (ce := fun C => [(C + 1, { cls := .type "cell", data := .cell none })]) (fun i l ws N _ => ∃ cs : List Nat, IntsAre ws (cs.map fun d : Nat => (d : Int)) ∧ cs = ((List.range i).map fun t => ((foundP boxes boxes.length).filter (fun p => p.sum == t)).length)) (fun C D => _) F k8 n8 (List.nodup_cons.mpr ⟨(fun h => nomatch h), List.nodup_nil⟩) (fun C => Dr.rangeC (by rfl) rfl) (fun q hq => nomatch hq)
      (fun C => ⟨_, rfl, ⟨_, rfl⟩, fun i' e => by (first | lia | omega)⟩) ⟨[], .nil, rfl⟩ (fun C D => .inl ⟨rfl, rfl⟩) ?_ ?_ (fun C => rfl) ?_
    · rintro C D i b l ws m N Is h11 tkj tk11 hi rfl ⟨oc, rfl, hoc, hoc2⟩ t10 t11 ⟨cs, RW, hcs⟩ F
      obtain ⟨tt, hoc2⟩ := hoc2 i rfl
      refine wpAny_tests_nil ?_
      refine iteT rfl ?_
      refine emitR (L := C) (s₀ := s₀) (g := h7) ?_
      have kt : Cl h11 (C + 1) (.int (0 + (i : Int) * 1) tt) := ⟨oc, F.of (q := (C + 1, oc)) (by walk_at "mm"), hoc2⟩
      refine callB F G7 (bn_len G7) bv_len ?_
      refine spliced_more ?_ star_LC
      refine compE ?_ (by rfl)
      walk_at "gs"
      refine itrL (F.keep _ _ e7) (IsLst.of _ _) fun I2 h12 k12 n12 s12 => ?_
      have G11 := G7.keeps F.keep
      have e11 := F.keep _ _ e7
      have RF11 := RF7.mono (H' := At h11) (fun a o e => F.keep _ _ e) (Nat.le_refl 0)
      refine comp1 (fun i2 ws N _ => N = [] ∧ ws.length = (((foundP boxes boxes.length).take i2).filter (fun p => p.sum == i)).length) F k12 n12 s12 (fun C => Dr.list (IsLst.of _ _) rfl) (fun q hq => by rw [List.mem_singleton.mp hq]; exact e11) ⟨rfl, rfl⟩ ?_ ?_
      · rintro C2 D2 i2 b l2 ws2 m2 N2 Is2 h13 tkj13 tk13 hi2 hbI t12 t13 ⟨hN, hwl⟩ F
        replace F := F.eqB hN
        refine drV hbI F fun vp hvp F => ?_
        obtain ⟨p, hp⟩ : ∃ p, (foundP boxes boxes.length)[i2]? = some p := ⟨(foundP boxes boxes.length)[i2]'(by (first | lia | omega)), by simp⟩
        refine (RF11.at hvp hp).partE fun ap pvs np ev hpm hip => ?_
        replace F := F.val ev
        have hsum : (p.map fun d : Nat => (d : Int)).sum = ((p.sum : Nat) : Int) := by
          clear hp hip
          induction p with
          | nil => rfl
          | cons x p ih => rw [List.map_cons, List.sum_cons, List.sum_cons, ih]; (first | lia | omega)
        refine wpAny_tests_one ?_
        walk_at "gs"
        refine callB F G11 (bn_sum G11) bv_sum ?_
        walk_at "gs"
        refine r_sumT rfl F (F.keep _ _ hpm) hip fun t14 h14 tk14 t15 k14 F => ?_
        rw [hsum]
        walk_at "gs"
        have ct : ((foundP boxes boxes.length).take (i2 + 1)).filter (fun p => p.sum == i) = ((foundP boxes boxes.length).take i2).filter (fun p => p.sum == i) ++ (if p.sum = i then [p] else []) := by
          rw [List.take_add_one, hp, List.filter_append]
          by_cases h : p.sum = i <;> simp [h]
        refine iteP (fun hs => ?_) fun hs => ?_
        · skip
          have hs : p.sum = i := by have := beq_iff_eq.mp hs; (first | lia | omega)
          walk_at "gs"
          have b1 := List.length_filter_le (fun p : List Nat => p.sum == i) ((foundP boxes boxes.length).take i2)
          have b2 := List.length_take_le i2 (foundP boxes boxes.length)
          exact CE.mk (N := []) (by (first | lia | omega)) F (Nat.le_trans (show ws2.length ≤ 1000000 by (first | lia | omega)) (by decide)) ⟨rfl, by rw [ct, if_pos hs, List.length_append, List.length_append, hwl]; rfl⟩
        · skip
          have hs : ¬ p.sum = i := fun z => hs (beq_iff_eq.mpr (by (first | lia | omega)))
          exact CS.mk (N := []) (by (first | lia | omega)) F ⟨rfl, by rw [ct, if_neg hs, List.append_nil]; exact hwl⟩
      · rintro C2 D2 l2 ws2 m2 N2 h13 tkj13 tk13 t12 t13 ⟨hN, hwl⟩ F₃
        replace F₃ := F₃.eqC hN
        rw [hfl, List.take_length] at hwl
        refine postV F F₃ fun h14 F => ?_
        walk_at "gs"
        have b1 := List.length_filter_le (fun p : List Nat => p.sum == i) (foundP boxes boxes.length)
        refine lenL (F.of (q := (D2, lisO ws2 m2)) (by walk_at "mm")) (IsLst.of _ _) (by (first | lia | omega)) fun t15 tk15 t16 => ?_
        have hcl : ws.length = i := by rw [RW.length, List.length_map, hcs, List.length_map, List.length_range]
        refine ER.mk (vs := ws) (m := m) (F.sub (List.sublist_append_left _ _)) (Nat.le_trans (show ws.length ≤ 4 by (first | lia | omega)) (by decide)) fun h16 m16 F => ?_
        refine CT.mk (N := N) (by (first | lia | omega)) F ⟨cs ++ [((foundP boxes boxes.length).filter (fun p => p.sum == i)).length], ?_, by rw [hcs, List.range_succ, List.map_append]; rfl⟩
        rw [List.map_append]
        refine RW.append ?_
        rw [hwl]
        exact .cons _ _ .nil
    · rintro C D l' ws m N' h13 tkj13 tk13 t12 t13 ⟨cs, RW, hcs⟩ F₃
      refine postV F F₃ fun h14 F => ?_
      walk_at "gs"
      have cD := F.led (D, lisO ws m) (by walk_at "mm")
      refine H _ _ _ (by (first | lia | omega)) (fun b o _ => F.keep b o) ⟨D, m, ws, rfl, ⟨cD.2.2, cD.1⟩, ?_⟩
      rw [hcs] at RW
      exact RW
    · intro h C hC
      refine ⟨fun q hq => ?_, by simp⟩
      rw [List.mem_singleton.mp hq, ← hC]
      exact new_push _ _
end
noncomputable abbrev fnBody {P : Params} {name qual : Str} {params : Arguments} {body : List Stmt} {scope : Scope} {dV kV doc pm cdv ct oc : Value} {an od : Option Addr} {osl : Array (Option Value)} {f : Addr}
    (_ : (hd.heap_1 P).lookup f = some ⟨oc, od, .func (fnOf name qual params body scope dV kV doc pm an cdv ct), osl⟩) : List Stmt := body
noncomputable abbrev fnScope {P : Params} {name qual : Str} {params : Arguments} {body : List Stmt} {scope : Scope} {dV kV doc pm cdv ct oc : Value} {an od : Option Addr} {osl : Array (Option Value)} {f : Addr}
    (_ : (hd.heap_1 P).lookup f = some ⟨oc, od, .func (fnOf name qual params body scope dV kV doc pm an cdv ct), osl⟩) : Scope := scope
noncomputable def lawB (P : Params) : List Stmt := fnBody (P := P) (f := 328) rfl
noncomputable def lawSc (P : Params) : Scope := fnScope (P := P) (f := 328) rfl
section
variable {w : World} {loose : List Str} {mean : ExcName → Option Value} {mg mb : Str → Option Value} {h : Heap} {tk : Nat}
noncomputable abbrev lawE (P : Params) (L fa : Addr) (cd : Value) : Env := envOfC "law" (lawSc P) L fa cd
noncomputable def NumF (g : Heap) (a : Addr) (ns : List Int) : Prop := ∃ vs n, g.get? a = some (lisO vs n) ∧ IntsAre vs ns
noncomputable def NatF (g : Heap) (a : Addr) (ks : List Nat) : Prop := ∃ vs n, g.get? a = some (lisO vs n) ∧ IntsAre vs (ks.map fun d : Nat => (d : Int))
noncomputable def BoxF (g : Heap) (a : Addr) (bs : List (Nat × Nat)) : Prop := ∃ vs n, g.get? a = some (lisO vs n) ∧ RA (At g) 0 vs (bs.map pairD)
theorem NumF.keeps {g g' : Heap} {a : Addr} {ns : List Int} (x : NumF g a ns) (k : Kp g g') : NumF g' a ns := let ⟨vs, n, e, i⟩ := x; ⟨vs, n, k _ _ e, i⟩
theorem NatF.keeps {g g' : Heap} {a : Addr} {ns : List Nat} (x : NatF g a ns) (k : Kp g g') : NatF g' a ns := let ⟨vs, n, e, i⟩ := x; ⟨vs, n, k _ _ e, i⟩
theorem BoxF.keeps {g g' : Heap} {a : Addr} {bs : List (Nat × Nat)} (x : BoxF g a bs) (k : Kp g g') : BoxF g' a bs := let ⟨vs, n, e, i⟩ := x; ⟨vs, n, k _ _ e, i.mono (fun _ _ e => k _ _ e) (Nat.le_refl _)⟩
noncomputable def boxesL (ss : List Nat) : List (Nat × Nat) := (List.range ss.length).flatMap fun r => (List.range (sh ss r)).map fun c => (r, c)
noncomputable abbrev tabs0 : Ld := [(117, tabObj #[]), (110, tabObj #[])]
section
variable {prog : Program} {A : Around} {s₀ : Shared} {env : Env} {x y : Str}
noncomputable def AC (s₀ : Shared) (env : Env) (x y : Str) (Q : Flow → Shared → Prop) (v1 v2 : Value) (s2 : Shared) : Prop := ∃ g h tk' l N c o, s2 = St s₀ h tk' ∧ Fm g env.locals l ((c, o) :: N) h ∧ env.cells.lookup x = some c ∧ IsCell o ∧ ∀ h' tk'' o', tk' ≤ tk'' → o'.data = .cell (some v1) → Fm g env.locals ((y, v2) :: l) ((c, o') :: N) h' → Q .next (St s₀ h' tk'')
theorem AC.mk {Q : Flow → Shared → Prop} {g h : Heap} {tk : Nat} {l : List (Str × Value)} {N : Ld} {c : Addr} {o : Obj} {v1 v2 : Value} (F : Fm g env.locals l ((c, o) :: N) h) (hc : env.cells.lookup x = some c) (ho : IsCell o)
    (H : ∀ h' tk' o', tk ≤ tk' → o'.data = .cell (some v1) → Fm g env.locals ((y, v2) :: l) ((c, o') :: N) h' → Q .next (St s₀ h' tk')) : AC s₀ env x y Q v1 v2 (St s₀ h tk) := ⟨g, h, tk, l, N, c, o, rfl, F, hc, ho, H⟩
/-- x, y = (e1, e2), x a cell, y a local name -/
theorem asg2C {Q : Flow → Shared → Prop} {e1 e2 : Expr} {k kt : Nat} {tpos vpos px py pos : Pos} {s : Shared} (hh : A.handled = none)
    (H : wpAny (model prog w) A (eval e1 env) (fun v1 s1 => wpAny (model prog w) A (eval e2 env) (AC s₀ env x y Q v1) No s1) No s)
    (hs : swapsWithSole [.Tuple [.Name x px, .Name y py] k tpos] (.Tuple [e1, e2] kt vpos) pos.line env = pure false := by rfl)
    (hw : swappedStores [.Tuple [.Name x px, .Name y py] k tpos] (.Tuple [e1, e2] kt vpos) env = pure none := by rfl)
    (he : starEach [e1, e2] env = [(false, eval e1 env), (false, eval e2 env)] := by rfl)
    (hk : env.scope.kind = .function := by rfl) (hx : env.kindOf x = some .cell := by rfl) (hy : env.kindOf y = some .local := by rfl) :
    wpAny (model prog w) A (exec (.Assign [.Tuple [.Name x px, .Name y py] k tpos] (.Tuple [e1, e2] kt vpos) pos) env) Q No s := by
  refine Assign_Tuple (wpAny_mono (Q := fun v s1 => ∃ g h tk' l N a v1 v2 c o, s1 = St s₀ h tk' ∧ v = .ref a ∧ Fm g env.locals l ((a, tupO [v1, v2] 0) :: (c, o) :: N) h ∧ env.cells.lookup x = some c ∧ IsCell o ∧ ∀ h' tk'' o', tk' ≤ tk'' → o'.data = .cell (some v1) → Fm g env.locals ((y, v2) :: l) ((c, o') :: N) h' → Q .next (St s₀ h' tk'')) (E := No) (Tuple_ ?_) (fun v s1 q => ?_) fun _ _ q => q) hs hw
  · rw [he]
    show wpAny (model prog w) A (spliced [(false, eval e1 env), (false, eval e2 env)]) _ No _
    refine spliced_cons (wpAny_mono H (fun v1 s1 q => spliced_cons (wpAny_mono q (fun v2 s2 q => spliced_nil ?_) fun _ _ q => q)) fun _ _ q => q)
    obtain ⟨g, h, tk', l, N, c, o, rfl, F, hc, hd, H⟩ := q
    exact mkT (vs := [v1, v2]) F (show 2 ≤ sizeLine by decide) fun a h' _ _ F' => ⟨g, h', tk', l, N, a, v1, v2, c, o, rfl, rfl, F', hc, hd, H⟩
  · obtain ⟨g, h, tk', l, N, a, v1, v2, c, o, rfl, rfl, F, hc, ⟨vo, hd⟩, H⟩ := q
    rw [assign_Tuple]
    refine wpAny_bind (wpAny_standAt ?_)
    show wpAny _ A (unpack (.ref a) [(false, assign (.Name x px) env), (false, assign (.Name y py) env)]) _ No _
    unfold unpack
    refine wpAny_bind (wpAny_holding ?_)
    show wpAny _ A (unpackItems (.ref a) 2 none) _ No _
    refine unp F hh (F.of (.head _)) 2 rfl fun h₂ _ F₂ => ?_
    refine aio_cons (wpAny_assign_Name (stC hc (F₂.sub (List.sublist_cons_self _ _)) hd (fun h₃ o' d' F₃ => ?_) hk hx))
    refine aio_cons (wpAny_assign_Name (stl F₃ (fun h₄ tk₄ t₄ F₄ => aio_nil ?_) hk hy))
    exact H h₄ tk₄ o' t₄ d' F₄
end
theorem r_ladd {prog : Program} {w : World} {A : Around} {s₀ : Shared} {g h : Heap} {tk : Nat} {L : Addr} {l : List (Str × Value)} {N : Ld} {Q : Value → Shared → Prop} {a b : Addr} {vs ws : List Value} {n m : Nat} (F : Fm g L l N h) (ha : h.get? a = some (lisO vs n)) (hb : h.get? b = some (lisO ws m)) (hsz : vs.length + ws.length ≤ sizeLine)
    (H : ∀ D h', Kp h h' → Fm g L l ((D, lisO (vs ++ ws) 0) :: N) h' → Q (.ref D) (St s₀ h' tk)) : wpAny (model prog w) A (binaryOp .Add (.ref a) (.ref b)) Q No (St s₀ h tk) := by
  refine P.add_list (s := St s₀ h tk) (n := n) (n2 := m) ha hb ?_ (by simpa using hsz)
  have F' := F.push (lisO (vs ++ ws) 0)
  have := H h.objs.size _ (kp_push _ _) F'
  simpa [lisO, W.listOf] using this
theorem boxes_mem {ss : List Nat} {p : Nat × Nat} (h : p ∈ boxesL ss) : p.1 < ss.length ∧ p.2 < sh ss p.1 := by
  obtain ⟨r, hr, hp⟩ := List.mem_flatMap.mp h
  obtain ⟨c, hc, rfl⟩ := List.mem_map.mp hp
  exact ⟨List.mem_range.mp hr, List.mem_range.mp hc⟩
theorem boxes_pos {ss : List Nat} (hS : Shp ss) : 0 < (boxesL ss).length := by
  have S := hS.sh
  have h0 : 0 < ss.length := List.length_pos_iff.mpr hS.1
  have : (0, 0) ∈ boxesL ss := List.mem_flatMap.mpr ⟨0, List.mem_range.mpr h0, List.mem_map.mpr ⟨0, List.mem_range.mpr (S.hp 0 h0), rfl⟩⟩
  exact List.length_pos_of_mem this
theorem boxes_len {ss : List Nat} (hS : Shp ss) : (boxesL ss).length ≤ 9 := by
  have S := hS.sh
  have hf : ∀ k, k ≤ 3 → ((List.range k).flatMap fun r => (List.range (sh ss r)).map fun c => (r, c)).length ≤ 3 * k := by
    intro k
    induction k with
    | zero => intro _; simp
    | succ k ih =>
      intro hk
      rw [List.range_succ, List.flatMap_append, List.length_append]
      have := ih (by (first | lia | omega))
      have h3 := S.le3 k
      simp only [List.flatMap_cons, List.flatMap_nil, List.append_nil, List.length_map, List.length_range]
      (first | lia | omega)
  have := hf ss.length S.R3
  have := S.R3
  show ((List.range ss.length).flatMap fun r => (List.range (sh ss r)).map fun c => (r, c)).length ≤ 9
  (first | lia | omega)
/-- the ledger is split: W may still change, R stands from now on -/
theorem Fm.settle {g h : Heap} {L : Addr} {l : List (Str × Value)} {N : Ld} (F : Fm g L l N h) (W R : Ld) (hp : N.Perm (W ++ R)) :
    ∃ g', Kp g g' ∧ (∀ q ∈ R, g'.get? q.1 = some q.2) ∧ Fm g' L l W h ∧ Kp g' h := by
  obtain ⟨a, b, c⟩ := Fm.rebase2 W R (F.perm hp)
  exact ⟨_, c, b, a, a.keep⟩
end
theorem Fm.settleJ {g h : Heap} {L : Addr} {l : List (Str × Value)} {N : Ld} (F : Fm g L l N h) (W R : Ld) {J : Ld} (hp : N.Perm (W ++ (R ++ J))) :
    ∃ g', Kp g g' ∧ (∀ q ∈ R, g'.get? q.1 = some q.2) ∧ Fm g' L l W h ∧ Kp g' h := by
  obtain ⟨g', a, b, c, d⟩ := F.settle W (R ++ J) hp
  exact ⟨g', a, fun q hq => b q (List.mem_append.mpr (.inl hq)), c, d⟩
theorem Fm.settleE {g h : Heap} {L : Addr} {l : List (Str × Value)} {N : Ld} {G : Prop} (F : Fm g L l N h) (W R : Ld) (hp : N.Perm (W ++ R)) (K : ∀ g', Kp g g' → (∀ q ∈ R, g'.get? q.1 = some q.2) → Fm g' L l W h → Kp g' h → G) : G :=
  let ⟨g', a, b, c, d⟩ := F.settle W R hp
  K g' a b c d
theorem Fm.settleJE {g h : Heap} {L : Addr} {l : List (Str × Value)} {N : Ld} {G : Prop} (F : Fm g L l N h) (W R : Ld) {J : Ld} (hp : N.Perm (W ++ (R ++ J))) (K : ∀ g', Kp g g' → (∀ q ∈ R, g'.get? q.1 = some q.2) → Fm g' L l W h → Kp g' h → G) : G :=
  let ⟨g', a, b, c, d⟩ := F.settleJ W R hp
  K g' a b c d
theorem r_sitem {prog : Program} {w : World} {A : Around} {s₀ : Shared} {h : Heap} {tk : Nat} {Q : Value → Shared → Prop} {value slice : Expr} {x : Str} {t u : Tok} {k : Nat} {c : Nat} (hk : k < x.length) (hk2 : k < 1000) (hc : x.cps[k]? = some c) (H : ∀ (t' tk' : Nat), tk < t' → t' ≤ tk' → Q (.str ⟨#[c]⟩ t') (St s₀ h tk'))
    (hs : subscripted slice false (.str x t) (.int (k : Int) u) = operate [.str x t, .int (k : Int) u] (getItem (.str x t) (.int (k : Int) u)) := by with_unfolding_all rfl) :
    wpAny (model prog w) A (subscriptTail value slice (.str x t) (.int (k : Int) u)) Q No (St s₀ h tk) := by
  refine tail_any (T := "str") (typeIs_str _ x t) PySem.F.slot_str_getitem.lookup (P.getItem_str (s := St s₀ h tk) (c := c) ?_ ?_ (H (tk + 1) (tk + 1) (Nat.lt_succ_self _) (Nat.le_refl _))) hs
  · have h1 : ¬ (k : Int) < -(2 ^ 63 : Int) := by (first | lia | omega)
    have h2 : ¬ (k : Int) ≥ 2 ^ 63 := by (first | lia | omega)
    rw [decide_eq_false h1, decide_eq_false h2]; rfl
  · have : seqIndex? (k : Int) x.length = some k := by simp [seqIndex?]; (first | lia | omega)
    rw [this]; exact hc
open Classical in
theorem eq_same {prog : Program} {w : World} {A : Around} {s₀ : Shared} {h : Heap} {tk : Nat} {Q : Value → Shared → Prop} {E : Value → Shared → Prop} {B B' : Nat} {u v : Value} {d : Dat} (ra : RD (At h) B u d) (rb : RD (At h) B' v d) (ka : kqdOk 9 d = true) (hu : A.units + 64 < cLine)
    (H : Q (.bool true) (St s₀ h tk)) : wpAny (model prog w) A (compareOp .Eq u v) Q E (St s₀ h tk) :=
  eq_dd (s := St s₀ h tk) ra rb ka ka hu (by rw [decide_eq_true rfl]; exact H)
open Classical in
theorem ne_same {prog : Program} {w : World} {A : Around} {s₀ : Shared} {h : Heap} {tk : Nat} {Q : Value → Shared → Prop} {E : Value → Shared → Prop} {B B' : Nat} {u v : Value} {d : Dat} (ra : RD (At h) B u d) (rb : RD (At h) B' v d) (ka : kqdOk 9 d = true) (hu : A.units + 64 < cLine)
    (H : Q (.bool false) (St s₀ h tk)) : wpAny (model prog w) A (compareOp .NotEq u v) Q E (St s₀ h tk) :=
  ne_dd (s := St s₀ h tk) ra rb ka ka hu (by rw [decide_eq_true rfl]; exact H)
noncomputable def zeroG : Grd := fun _ _ => 0
theorem takes_zero {s : Nat → Nat} {R : Nat} : Takes s R 0 zeroG [] zeroG := (takes_skip R (Nat.le_refl _) fun _ _ => rfl).mpr .done
theorem pureA {s : Nat → Nat} {R : Nat} (S : Sh s R) (cnt : Nat → Nat → Nat) : ∃ gf, Puts s zeroG (opR s cnt R) gf ∧ Mono s gf ∧ total s R gf = ((opR s cnt R).map (hk s R)).sum ∧ Takes s R 0 gf (opR s cnt R).reverse zeroG := by
  obtain ⟨gf, h1, h2, h3, h4⟩ := bag_put S (opR s cnt R) zeroG [] zeroG ⟨fun _ _ _ => Nat.le_refl _, fun _ _ _ => Nat.le_refl _⟩ (pw_opR R) (fun p hp => by
    have := mem_opR hp
    exact ⟨this.2, fun _ _ _ _ => rfl, 0, Nat.zero_le _, take_nought S.hs R S.hR zeroG (fun _ _ => rfl) _ (by (first | lia | omega))⟩) takes_zero
  refine ⟨gf, h1, h2, ?_, by rw [List.append_nil] at h4; exact h4⟩
  have : total s R zeroG = 0 := by
    unfold total
    have : (fun a => (rowL s zeroG a).sum) = fun _ => 0 := by
      funext a
      have : ∀ k : Nat, ((List.range k).map (zeroG a)).sum = 0 := by
        intro k
        induction k with
        | zero => rfl
        | succ k ih => rw [List.range_succ, List.map_append, List.sum_append, ih]; rfl
      exact this _
    rw [this]
    have : ∀ k : Nat, ((List.range k).map (fun _ : Nat => 0)).sum = 0 := by
      intro k
      induction k with
      | zero => rfl
      | succ k ih => rw [List.range_succ, List.map_append, List.sum_append, ih]; rfl
    exact this _
  rw [h3, this, Nat.zero_add]
theorem opR_perm {s : Nat → Nat} {R : Nat} {l : List (Nat × Nat)} (hv : ∀ p ∈ l, p.1 < R ∧ p.2 < s p.1) : (opR s (fun r c => l.count (r, c)) R).Perm l := by
  refine List.perm_iff_count.mpr fun q => ?_
  rw [count_opR]
  by_cases h : q.1 < R ∧ q.2 < s q.1
  · rw [if_pos h]
  · rw [if_neg h]
    exact (List.count_eq_zero.mpr fun hm => h (hv q hm)).symm
theorem sum_perm {l m : List Nat} (h : l.Perm m) : l.sum = m.sum := by
  induction h with
  | nil => rfl
  | cons a _ ih => rw [List.sum_cons, List.sum_cons, ih]
  | swap a b l => simp only [List.sum_cons]; (first | lia | omega)
  | trans _ _ h1 h2 => exact h1.trans h2
theorem dep_ge {s : Nat → Nat} {R r c : Nat} (S : Sh s R) (h : c < s r) : r + 1 ≤ dep s R c := by
  obtain ⟨a, h1, h2, h3⟩ := S.bot h
  rw [dep_eq S h2 h3]; (first | lia | omega)
/-- the second filling, taken apart and laid in again -/
theorem pureB {s : Nat → Nat} {R : Nat} (S : Sh s R) {g : Grd} (M : Mono s g) (hout : ∀ a b, ¬ b < s a → g a b = 0) : ∃ ops, Takes s R 0 g ops zeroG ∧ (∀ p ∈ ops, p.1 < R ∧ p.2 < s p.1) ∧ Puts s zeroG (opR s (fun r c => ops.count (r, c)) R) g := by
  obtain ⟨ops, gf, h1, h2, h3, h4, h5, h6, _⟩ := take_all S R 0 (by (first | lia | omega)) (Nat.zero_le _) _ g rfl M (fun _ _ h => absurd h (Nat.not_lt_zero _))
  have e : gf = zeroG := by
    funext a b
    by_cases h : b < s a
    · exact h2 a b h
    · rw [h3 a b h, hout a b h]; rfl
  subst e
  have hv : ∀ p ∈ ops, p.1 < R ∧ p.2 < s p.1 := fun p hp => ⟨S.lt (h6 p hp).2, (h6 p hp).2⟩
  refine ⟨ops, h1, hv, ?_⟩
  rw [opR_eq (l := ops.reverse) (List.pairwise_reverse.mpr (h5.imp fun {a b} h => ?_)) (fun p hp => hv p (List.mem_reverse.mp hp)) (fun r c _ _ => by rw [List.count_reverse])]
  · exact h4
  · unfold Do at h
    unfold Od
    (first | lia | omega)
theorem TakeP.run {s : Nat → Nat} {gc g' : Grd} {i j n d c : Nat} (T : TakeP s gc i j n d c g') : TakeR s gc i j n d c g' := by
  induction T with
  | stop h1 _ h2 h3 => exact .stop h1 h2 h3
  | left h1 _ h2 _ ih => exact .left h1 h2 ih
  | down h1 _ h2 h3 _ ih => exact .down h1 h2 h3 ih
theorem dcr_le (g : Grd) (i j a b : Nat) : dcr g i j a b ≤ g a b := by
  unfold dcr
  split <;> (first | lia | omega)
theorem take_dec {s : Nat → Nat} {gc g' : Grd} {i j n d c : Nat} (T : TakeR s gc i j n d c g') : ∀ a b, g' a b ≤ gc a b := by
  induction T with
  | stop h1 h2 h3 => exact dcr_le _ _ _
  | left h1 h2 _ ih => exact fun a b => Nat.le_trans (ih a b) (dcr_le _ _ _ a b)
  | down h1 h2 h3 _ ih => exact fun a b => Nat.le_trans (ih a b) (dcr_le _ _ _ a b)
/-- how many hooks may be taken -/
theorem takes_len {s : Nat → Nat} {R : Nat} (S : Sh s R) {B : Nat} {r : Nat} {g gf : Grd} {ops : List (Nat × Nat)} (T : Takes s R r g ops gf) : (∀ a b, b < s a → g a b ≤ B) → ops.length ≤ if r < R then g r (s r - 1) + (R - r - 1) * B else 0 := by
  induction T with
  | done => intro _; rw [if_neg (Nat.lt_irrefl _)]; exact Nat.le_refl _
  | row h1 h2 hq ih =>
    rename_i r g gf ops
    intro hb
    have := ih hb
    rw [if_pos h1, h2]
    by_cases h : r + 1 < R
    · rw [if_pos h] at this
      have h3 := hb (r + 1) (s (r + 1) - 1) (by have := S.hp _ h; (first | lia | omega))
      have : (R - r - 1) * B = (R - (r + 1) - 1) * B + B := by
        rw [show R - r - 1 = (R - (r + 1) - 1) + 1 by (first | lia | omega), Nat.add_mul, Nat.one_mul]
      (first | lia | omega)
    · rw [if_neg h] at this; (first | lia | omega)
  | take h1 h2 hT hq ih =>
    rename_i r d c g g' gf ops
    intro hb
    have h3 := take_at hT.run
    have := ih fun a b h => Nat.le_trans (take_dec hT.run a b) (hb a b h)
    rw [if_pos h1] at this ⊢
    rw [List.length_cons]
    (first | lia | omega)
noncomputable def grdOf (rows : List (List Nat)) : Grd := fun i j => (rows.getD i []).getD j 0
section
variable {rows : List (List Nat)} {ss : List Nat}
theorem row_at (h : rows.map List.length = ss) {i : Nat} (hi : i < ss.length) : ∃ r, rows[i]? = some r ∧ r.length = sh ss i := by
  have hl : rows.length = ss.length := by rw [← h, List.length_map]
  refine ⟨rows[i]'(by (first | lia | omega)), by simp, ?_⟩
  subst h
  simp [sh, hl ▸ hi]
theorem grdOf_rows (h : rows.map List.length = ss) : rowsOf (sh ss) ss.length (grdOf rows) = rows := by
  have hl : rows.length = ss.length := by rw [← h, List.length_map]
  apply List.ext_getElem?
  intro k
  by_cases hk : k < ss.length
  · obtain ⟨r, hr, hrl⟩ := row_at h hk
    rw [rowsOf_get hk, hr]
    congr 1
    apply List.ext_getElem?
    intro j
    by_cases hj : j < sh ss k
    · rw [rowL_get _ _ hj]
      unfold grdOf
      simp [List.getD, hr, hrl ▸ hj]
    · rw [List.getElem?_eq_none (by rw [rowL_len]; (first | lia | omega)), List.getElem?_eq_none (by (first | lia | omega))]
  · rw [List.getElem?_eq_none (by simp [rowsOf]; (first | lia | omega)), List.getElem?_eq_none (by (first | lia | omega))]
theorem grdOf_at (h : rows.map List.length = ss) {i j : Nat} (hj : j < sh ss i) (hi : i < ss.length) : ∃ r, rows[i]? = some r ∧ r[j]? = some (grdOf rows i j) ∧ r.length = sh ss i := by
  obtain ⟨r, hr, hrl⟩ := row_at h hi
  refine ⟨r, hr, ?_, hrl⟩
  unfold grdOf
  simp [List.getD, hr, hrl ▸ hj]
theorem grdOf_mono (hS : Shp ss) (h : rows.map List.length = ss) (hM : MonoL rows) : Mono (sh ss) (grdOf rows) := by
  have S := hS.sh
  refine ⟨fun a b hb => ?_, fun a b hb => ?_⟩
  · have ha := S.lt hb
    obtain ⟨r, hr, e1, hl⟩ := grdOf_at h (j := b) (by (first | lia | omega)) ha
    obtain ⟨r', hr', e2, _⟩ := grdOf_at h hb ha
    rw [hr] at hr'; cases hr'
    obtain ⟨h1, h1'⟩ := List.getElem?_eq_some_iff.mp e1
    obtain ⟨h2, h2'⟩ := List.getElem?_eq_some_iff.mp e2
    have := List.pairwise_iff_getElem.mp (hM.1 r (List.mem_of_getElem? hr)) b (b + 1) h1 h2 (by (first | lia | omega))
    rw [h1', h2'] at this
    exact this
  · have ha := S.lt hb
    have h1 := S.hs a
    obtain ⟨r, hr, e1, _⟩ := grdOf_at h (i := a) (j := b) (by (first | lia | omega)) (by (first | lia | omega))
    obtain ⟨r', hr', e2, _⟩ := grdOf_at h hb ha
    exact hM.2 a r r' hr hr' b _ _ e1 e2
theorem grdOf_out (hS : Shp ss) (h : rows.map List.length = ss) (a b : Nat) (hb : ¬ b < sh ss a) : grdOf rows a b = 0 := by
  have hl : rows.length = ss.length := by rw [← h, List.length_map]
  unfold grdOf
  by_cases ha : a < ss.length
  · obtain ⟨r, hr, hrl⟩ := row_at h ha
    simp [List.getD, hr, show ¬ b < r.length by (first | lia | omega)]
  · simp [List.getD, show ¬ a < rows.length by (first | lia | omega)]
theorem grdOf_le (hS : Shp ss) (h : rows.map List.length = ss) {B : Nat} (hB : ∀ r ∈ rows, ∀ x ∈ r, x ≤ B) (a b : Nat) (hb : b < sh ss a) : grdOf rows a b ≤ B := by
  obtain ⟨r, hr, e1, _⟩ := grdOf_at h hb (hS.sh.lt hb)
  exact hB r (List.mem_of_getElem? hr) _ (List.mem_of_getElem? e1)
end
/-- a grid that never falls: its rows and columns are sorted -/
theorem lines_sorted {s : Nat → Nat} {R : Nat} {g : Grd} (S : Sh s R) (M : Mono s g) : ∀ r ∈ rowsOf s R g, r.Pairwise (· ≤ ·) := by
  intro r hr
  obtain ⟨i, _, rfl⟩ := List.mem_map.mp hr
  refine List.pairwise_iff_getElem.mpr fun a b ha hb hab => ?_
  rw [rowL_len] at ha hb
  have e1 := rowL_get s g ha
  have e2 := rowL_get s g hb
  obtain ⟨_, e1⟩ := List.getElem?_eq_some_iff.mp e1
  obtain ⟨_, e2⟩ := List.getElem?_eq_some_iff.mp e2
  rw [e1, e2]
  exact mono_row M (by (first | lia | omega)) hb
theorem mono_col {s : Nat → Nat} {g : Grd} (hs : ∀ a, s (a + 1) ≤ s a) (M : Mono s g) {i j c : Nat} (h : i ≤ j) (hc : c < s j) : g i c ≤ g j c := by
  induction j with
  | zero => rw [show i = 0 by (first | lia | omega)]; exact Nat.le_refl _
  | succ j ih =>
    by_cases e : i = j + 1
    · rw [e]; exact Nat.le_refl _
    · exact Nat.le_trans (ih (by (first | lia | omega)) (by have := hs j; (first | lia | omega))) (M.2 j c hc)
theorem col_sorted {s : Nat → Nat} {R : Nat} {g : Grd} (S : Sh s R) (M : Mono s g) (c : Nat) : (((rowsOf s R g).filter (fun r => decide (c < r.length))).map (fun r => r.getD c 0)).Pairwise (· ≤ ·) := by
  refine List.pairwise_map.mpr (List.pairwise_filter.mpr ?_)
  refine List.pairwise_map.mpr ?_
  refine (List.pairwise_lt_range (n := R)).imp fun {i j} hij h1 h2 => ?_
  have h2 : c < s j := by simpa [rowL_len] using h2
  have h1 : c < s i := by simpa [rowL_len] using h1
  have e1 := rowL_get s g h1
  have e2 := rowL_get s g h2
  simp only [List.getD, e1, e2, Option.getD_some]
  exact mono_col S.hs M (by (first | lia | omega)) h2
noncomputable def shapes : List (List Nat) := [[1], [2], [3], [1, 1], [2, 1], [2, 2], [3, 1], [3, 2], [3, 3], [1, 1, 1], [2, 1, 1], [2, 2, 1], [2, 2, 2], [3, 1, 1], [3, 2, 1], [3, 2, 2], [3, 3, 1], [3, 3, 2], [3, 3, 3]]
theorem Shp.mem {ss : List Nat} (S : Shp ss) : ss ∈ shapes := by
  obtain ⟨h1, h2, h3, h4⟩ := S
  match ss, h1, h2, h3, h4 with
  | [a], _, _, h3, _ =>
    have := h3 a (by simp)
    obtain rfl | rfl | rfl : a = 1 ∨ a = 2 ∨ a = 3 := by (first | lia | omega)
    all_goals decide
  | [a, b], _, _, h3, h4 =>
    have := h3 a (by simp)
    have := h3 b (by simp)
    simp at h4
    obtain rfl | rfl | rfl : a = 1 ∨ a = 2 ∨ a = 3 := by (first | lia | omega)
    all_goals obtain rfl | rfl | rfl : b = 1 ∨ b = 2 ∨ b = 3 := by (first | lia | omega)
    all_goals first | decide | (first | lia | omega)
  | [a, b, c], _, _, h3, h4 =>
    have := h3 a (by simp)
    have := h3 b (by simp)
    have := h3 c (by simp)
    simp at h4
    obtain rfl | rfl | rfl : a = 1 ∨ a = 2 ∨ a = 3 := by (first | lia | omega)
    all_goals obtain rfl | rfl | rfl : b = 1 ∨ b = 2 ∨ b = 3 := by (first | lia | omega)
    all_goals obtain rfl | rfl | rfl : c = 1 ∨ c = 2 ∨ c = 3 := by (first | lia | omega)
    all_goals first | decide | (first | lia | omega)
noncomputable def hooksL (ss : List Nat) : List Nat := (boxesL ss).map (hk (sh ss) ss.length)
noncomputable def digsL (X wd : Nat) : List Nat := (List.range ((Builtin.Int.intBits (X : Int) + wd - 1) / wd)).map fun i => X / 2 ^ (wd * i) % 2 ^ wd
noncomputable def chk (ss : List Nat) (wd : Nat) : Bool := digsL (2 ^ (wd * (3 + (hooksL ss).sum)) / prodN wd (hooksL ss)) wd == (countsP (boxesL ss)).reverse
theorem chk_all : ∀ ss ∈ shapes, ∀ k, k < 16 → chk ss (16 + k) = true := by decide +kernel
noncomputable def okB (ss : List Nat) : Bool := ((List.range (boxesL ss).length).all fun k => match (boxesL ss)[k]? with
  | some b => (b.2 == 0 || decide (0 < k)) && (b.1 == 0 || decide ((boxesL ss).idxOf (b.1 - 1, b.2) < k))
  | none => true) && decide ((hooksL ss).sum ≤ 30) && (hooksL ss).all fun d => decide (1 ≤ d ∧ d ≤ 5)
theorem okB_all : ∀ ss ∈ shapes, okB ss = true := by decide +kernel
section
variable {w : World} {loose : List Str} {mean : ExcName → Option Value} {mg mb : Str → Option Value} {dp un : Nat} {fr : Option (List Env)} {gd : Option (List Code)} {s₀ : Shared} {L fa : Addr} {cd : Value} {Q : Flow → Shared → Prop}
theorem seg0 {g h₁ : Heap} {ax : Addr} {so o1 o2 o3 o4 o5 o6 : Obj} {vs : List Value} {ns : List Int} {t₀ : Nat} (hd : dp + 50 < recursionLimit) (hu : un + 500 < cLine) (G : Gd w loose mean mg mb g)
    (F : Fm g L [("script", .ref ax)] ([(L + 6, o6), (L + 5, o5), (L + 4, o4), (L + 3, o3), (L + 2, o2), (L + 1, o1)] ++ tabs0) h₁) (c1 : IsCell o1) (el : g.get? ax = some so) (hl : IsLst so vs) (hi : IntsAre vs ns) (hz : ns.length ≤ 63)
    (H : ∀ g' l h' tk' nx sa ss t, Gd w loose mean mg mb g' → Kp g g' → NumF g' nx (ns.take 60) → NatF g' sa ss → Shp ss → Cl g' (L + 1) (.ref sa) → lk l "numbers" = some (.ref nx) → lk l "spare" = some (.int (ns.take 60).sum t) →
      Fm g' L l ([(L + 6, o6), (L + 5, o5), (L + 4, o4), (L + 3, o3), (L + 2, o2)] ++ tabs0) h' → wpAny (model MP w) (Ar dp un fr gd) (execs ((lawB w.params).drop 2) (lawE w.params L fa cd)) Q No (St s₀ h' tk')) :
    wpAny (model MP w) (Ar dp un fr gd) (execs ((lawB w.params).drop 0) (lawE w.params L fa cd)) Q No { s₀ with heap := h₁, toks := t₀ } := by
  have hvl : vs.length = ns.length := hi.length
  dsimp only [lawB, fnBody, List.drop]
  refine wpAny_execs_cons ?_
  refine wpAny_Assign_Name ?_ (by rfl)
  refine slcV (s₀ := s₀) ?_
  refine wpAny_Name (wpAny_loadName_local (by rfl) (by rfl) F.ns (by rfl) ?_) (by decide)
  refine evN ?_
  refine evS ?_
  refine wpAny_Constant_int ?_
  refine evN ?_
  refine SV.mk (vs := vs) (lo := none) (hi := some 60) (k := none) F (F.keep _ _ el) hl (Nat.le_trans (show vs.length ≤ 63 by (first | lia | omega)) (by decide)) .none (.int _ _) .none (by simp) fun nx h2 F => ?_
  have e60 : (slicePick vs.toArray none (some 60) none).toList = vs.take 60 := by rw [show (some (60 : Int)) = some ((60 : Nat) : Int) from rfl, slicePick_upto']
  rw [e60] at F
  have hi60 : IntsAre (vs.take 60) (ns.take 60) := RA.toInts (H := fun _ _ => True) (B := 0) (by rw [List.map_take]; exact (RA.ints hi).take 60)
  walk_at "g"
  replace F := (‹Fm _ _ _ _ _› : Fm _ L _ _ _)
  refine wpAny_execs_cons ?_
  refine asg2C (s₀ := s₀) rfl ?_
  refine callN F G (gn_law_sizes G) ki_law_sizes fun Qc Kc => ?_
  walk_at "gs"
  refine CN.mk F.keep ?_
  refine t_sizes (G.keeps F.keep) (F.of (q := (nx, lisO (vs.take 60) 0)) (.head _)) (IsLst.of _ _) hi60 (by rw [List.length_take]; (first | lia | omega)) dp un fr gd _ _ (by (first | lia | omega)) (by (first | lia | omega)) ?_
  rintro r h3 tk3 t3 kx ⟨sa, n3, vs3, ss, rfl, n3', hi3, hS⟩
  refine Le.go Kc ?_
  try clear Kc Qc
  try dsimp only
  replace F := F.new (kpx kx) n3'.1 n3'.2
  refine callB F G (bn_sum G) bv_sum ?_
  walk_at "gs"
  refine r_sumL rfl F (F.of (q := (nx, lisO (vs.take 60) 0)) (by walk_at "mm")) (IsLst.of _ _) hi60 fun t4 h4 tk4 t4' k4 F => ?_
  refine AC.mk (c := L + 1) (o := o1) (F.perm (perm_idx _ 7 (q := (L + 1, o1)) rfl)) (by rfl) c1 fun h5 tk5 o1' t5 d1 F => ?_
  refine F.settleE ([(L + 6, o6), (L + 5, o5), (L + 4, o4), (L + 3, o3), (L + 2, o2)] ++ tabs0) [(L + 1, o1'), (sa, lisO vs3 n3), (nx, lisO (vs.take 60) 0)] (by
    (repeat (first | exact List.Perm.refl _ | refine (perm_idx _ 0 (by rfl)).trans (List.Perm.cons _ ?_) | refine (perm_idx _ 1 (by rfl)).trans (List.Perm.cons _ ?_) | refine (perm_idx _ 2 (by rfl)).trans (List.Perm.cons _ ?_) | refine (perm_idx _ 3 (by rfl)).trans (List.Perm.cons _ ?_) | refine (perm_idx _ 4 (by rfl)).trans (List.Perm.cons _ ?_) | refine (perm_idx _ 5 (by rfl)).trans (List.Perm.cons _ ?_) | refine (perm_idx _ 6 (by rfl)).trans (List.Perm.cons _ ?_) | refine (perm_idx _ 7 (by rfl)).trans (List.Perm.cons _ ?_) | refine (perm_idx _ 8 (by rfl)).trans (List.Perm.cons _ ?_)))) fun g' kg hR F kh => ?_
  try walk_at "gK"
  exact H g' _ h5 tk5 nx sa ss t4 (G.keeps kg) kg ⟨_, _, hR (nx, lisO (vs.take 60) 0) (by simp), hi60⟩ ⟨_, _, hR (sa, lisO vs3 n3) (by simp), hi3⟩ hS ⟨o1', hR (L + 1, o1') (by simp), d1⟩ rfl rfl F
end
section
variable {w : World} {loose : List Str} {mean : ExcName → Option Value} {mg mb : Str → Option Value} {dp un : Nat} {fr : Option (List Env)} {gd : Option (List Code)} {s₀ : Shared} {L fa : Addr} {cd : Value} {Q : Flow → Shared → Prop}
theorem seg1 {g h : Heap} {l : List (Str × Value)} {sa : Addr} {ss : List Nat} {o2 o3 o4 o5 o6 : Obj} {tk : Nat} (G : Gd w loose mean mg mb g) (hS : Shp ss) (hsz : NatF g sa ss) (cs : Cl g (L + 1) (.ref sa))
    (F : Fm g L l ([(L + 6, o6), (L + 5, o5), (L + 4, o4), (L + 3, o3), (L + 2, o2)] ++ tabs0) h) (c2 : IsCell o2)
    (H : ∀ g' h' tk' ba, tk ≤ tk' → Gd w loose mean mg mb g' → Kp g g' → BoxF g' ba (boxesL ss) → Cl g' (L + 2) (.ref ba) →
      Fm g' L l ([(L + 6, o6), (L + 5, o5), (L + 4, o4), (L + 3, o3)] ++ tabs0) h' → wpAny (model MP w) (Ar dp un fr gd) (execs ((lawB w.params).drop 3) (lawE w.params L fa cd)) Q No (St s₀ h' tk')) :
    wpAny (model MP w) (Ar dp un fr gd) (execs ((lawB w.params).drop 2) (lawE w.params L fa cd)) Q No (St s₀ h tk) := by
  have S := hS.sh
  obtain ⟨svs, sn, es, hi⟩ := hsz
  have hle : svs.length = ss.length := by rw [hi.length, List.length_map]
  have hsv : ∀ i, i < ss.length → ∃ t, svs[i]? = some (.int (sh ss i : Nat) t) := fun i h => ints_get hi (by simp [sh, h])
  have hR3 := S.R3
  dsimp only [lawB, fnBody, List.drop]
  refine wpAny_execs_cons ?_
  refine wpAny_Assign_Name ?_ (by rfl)
  refine compE (cl := []) ?_ (by rfl)
  refine callT F G (bn_enumerate G) bv_enumerate ?_
  walk_at "gs"
  refine r_enum (F.keep _ _ es) (IsLst.of _ _) fun E I h3 Is0 k3 n3 nd3 s3 hEI => ?_
  refine EnIt.iter s3 (fun q hq => (n3 q hq).2) ?_
  have Gh := G.keeps F.keep
  refine compGo0 (S := fun _ => EnIt E I sa) (cl2 := fun _ => _) (ce := fun _ => []) (fun i l ws N _ => RA (In N) 0 ws (((List.range i).flatMap fun r => (List.range (sh ss r)).map fun c => (r, c)).map pairD)) (fun C D => _) F k3 n3 nd3 (fun C => Dr.enum (IsLst.of _ _) hEI rfl) (fun q hq => by rw [List.mem_singleton.mp hq]; exact F.keep _ _ es)
    (fun _ => by rw [List.append_nil]; exact s3) .nil (fun C D => .inr ⟨_, _, _, rfl, rfl⟩) ?_ ?_ (fun C => rfl) (fun h C _ => ⟨(fun _ hq => nomatch hq), List.nodup_nil⟩)
  · rintro C D i b l ws m N Is h4 tkj tk4 hi4 ⟨tb, v, hv, rfl⟩ hS4 t3 t4 RW F
    obtain ⟨tsi, hsi⟩ := hsv i (by (first | lia | omega))
    rw [hv] at hsi
    obtain rfl := Option.some.inj hsi
    have h3 := S.le3 i
    refine wpAny_tests_nil ?_
    refine iteT rfl ?_
    refine nestR ?_
    refine callT F Gh (bn_range Gh) bv_range ?_
    walk_at "gs"
    refine rg1 fun r h5 tk5 u5 v5 t5 k5 n5 => ?_
    refine itr1 (n := sh ss i) n5.2 (by (first | lia | omega)) (by (first | lia | omega)) (by (first | lia | omega)) fun I6 h6 k6 n6 s6 => ?_
    replace F := (F.kp k5).its k6 n6
    refine compS (s₀ := s₀) rfl (Dr.range rfl) s6 F ?_
    replace F := F.perm (List.Perm.swap _ _ _)
    refine compL (nx := _) (Is := [(I6, _)]) (N := Is ++ N) (fun j l vs N' _ => (∃ t, lk l "row" = some (.int (i : Nat) t)) ∧ ∃ NT, N' = Is ++ NT ∧ RA (In NT) 0 vs ((((List.range i).flatMap fun r => (List.range (sh ss r)).map fun c => (r, c)) ++ (List.range j).map fun c => (i, c)).map pairD))
      rfl (.inl ⟨rfl, rfl⟩) (Dr.range rfl) (fun _ hq => nomatch hq) F s6 ⟨⟨tb, rfl⟩, N, rfl, by simpa using RW⟩ ?_ ?_
    · rintro j b l vs m N2 Is2 h7 tkj tk7 hj ⟨te, rfl⟩ hS2 t6 t7 ⟨⟨tr, l1⟩, NT, rfl, RJ⟩ F
      have hev : (0 : Int) + (j : Int) * 1 = (j : Nat) := by (first | lia | omega)
      rw [hev] at F
      refine wpAny_tests_nil ?_
      refine iteT rfl ?_
      refine emitR (L := C) (s₀ := s₀) (g := h) ?_
      walk_at "gs"
      refine mkT F (by show 2 ≤ sizeLine; decide) fun ta h8 _ _ F => ?_
      have hvl : vs.length ≤ 100 := by
        have := RJ.length
        rw [List.length_map, List.length_append, List.length_map, List.length_range] at this
        have hf : ∀ k, k ≤ 3 → ((List.range k).flatMap fun r => (List.range (sh ss r)).map fun c => (r, c)).length ≤ 3 * k := by
          intro k
          induction k with
          | zero => intro _; simp
          | succ k ih =>
            intro hk
            rw [List.range_succ, List.flatMap_append, List.length_append]
            have := ih (by (first | lia | omega))
            have h3 := S.le3 k
            simp only [List.flatMap_cons, List.flatMap_nil, List.append_nil, List.length_map, List.length_range]
            (first | lia | omega)
        have := hf i (by (first | lia | omega))
        (first | lia | omega)
      refine ER.mk (vs := vs) (m := m) (N := Is2 ++ (Is ++ (NT ++ [(ta, tupO [.int (i : Nat) tr, .int (j : Nat) te] 0)]))) (F.perm ?_) (Nat.le_trans hvl (by decide)) fun h9 m9 F => CT.mk (by (first | lia | omega)) F ⟨⟨tr, l1⟩, _, rfl, ?_⟩
      · refine (List.Perm.swap _ _ _).trans (List.Perm.cons _ ?_)
        simp only [← List.append_assoc]
        exact (List.perm_append_singleton _ _).symm
      · rw [List.range_succ, List.map_append (f := fun c => (i, c)), ← List.append_assoc, List.map_append (f := pairD)]
        exact (RJ.mono (fun a o hm => List.mem_append.mpr (.inl hm)) (Nat.le_refl _)).append (.cons (.tuple (List.mem_append.mpr (.inr (.head _))) (.cons (.int _ _) (.cons (.int _ _) .nil))) .nil)
    · rintro l vs m N h7 tkj tk7 t6 t7 ⟨⟨tr, l1⟩, NT, rfl, RJ⟩ F
      refine CT.mk (vs := vs) (N := NT) (by (first | lia | omega)) F ?_
      rw [List.range_succ, List.flatMap_append]
      simpa using RJ
  · rintro C D l' ws m N' h4 tkj tk4 t3 t4 RW F₃
    rw [hle] at RW
    refine postV F F₃ fun h5 F => ?_
    obtain ⟨vc2, dc2⟩ := c2
    replace F := F.pull 4 (q := (L + 2, o2))
    with_reducible refine' stC ?hc ?F ?hd ?_ ?hk ?hx
    case F => exact F
    case hd => exact dc2
    case hc => rfl
    case hk => rfl
    case hx => rfl
    intro h6 o2' d2' F
    replace F : Fm _ L _ _ _ := F
    refine F.settleE ([(L + 6, o6), (L + 5, o5), (L + 4, o4), (L + 3, o3)] ++ tabs0) ((L + 2, o2') :: (D, lisO ws m) :: N') (by (repeat (first | exact List.Perm.refl _ | refine (perm_idx _ 0 (by rfl)).trans (List.Perm.cons _ ?_) | refine (perm_idx _ 1 (by rfl)).trans (List.Perm.cons _ ?_) | refine (perm_idx _ 2 (by rfl)).trans (List.Perm.cons _ ?_) | refine (perm_idx _ 3 (by rfl)).trans (List.Perm.cons _ ?_) | refine (perm_idx _ 4 (by rfl)).trans (List.Perm.cons _ ?_) | refine (perm_idx _ 5 (by rfl)).trans (List.Perm.cons _ ?_) | refine (perm_idx _ 6 (by rfl)).trans (List.Perm.cons _ ?_) | refine (perm_idx _ 7 (by rfl)).trans (List.Perm.cons _ ?_) | refine (perm_idx _ 8 (by rfl)).trans (List.Perm.cons _ ?_)))) fun g' kg hR F kh => ?_
    try walk_at "gK"
    exact H g' h6 tk4 D (by (first | lia | omega)) (G.keeps kg) kg ⟨ws, m, hR (D, lisO ws m) (by simp), RW.mono (fun a o hm => hR (a, o) (by have : (a, o) ∈ N' := hm; simp [this])) (Nat.le_refl _)⟩ ⟨o2', hR (L + 2, o2') (by simp), d2'⟩ F
end
section
variable {w : World} {loose : List Str} {mean : ExcName → Option Value} {mg mb : Str → Option Value} {dp un : Nat} {fr : Option (List Env)} {gd : Option (List Code)} {s₀ : Shared} {L fa : Addr} {cd : Value} {Q : Flow → Shared → Prop}
theorem seg2 {g h : Heap} {l : List (Str × Value)} {nx ba : Addr} {ss : List Nat} {ns : List Int} {o3 o4 o5 o6 : Obj} {tk : Nat} (G : Gd w loose mean mg mb g) (hS : Shp ss) (hn : NumF g nx ns) (hnl : ns.length ≤ 60) (l1 : lk l "numbers" = some (.ref nx)) (hbx : BoxF g ba (boxesL ss)) (cb : Cl g (L + 2) (.ref ba))
    (F : Fm g L l ([(L + 6, o6), (L + 5, o5), (L + 4, o4), (L + 3, o3)] ++ tabs0) h) (c3 : IsCell o3)
    (H : ∀ g' h' tk' da drawn, tk ≤ tk' → Gd w loose mean mg mb g' → Kp g g' → BoxF g' da drawn → (∀ p ∈ drawn, p ∈ boxesL ss) → drawn.length ≤ 24 → Cl g' (L + 3) (.ref da) →
      Fm g' L l ([(L + 6, o6), (L + 5, o5), (L + 4, o4)] ++ tabs0) h' → wpAny (model MP w) (Ar dp un fr gd) (execs ((lawB w.params).drop 4) (lawE w.params L fa cd)) Q No (St s₀ h' tk')) :
    wpAny (model MP w) (Ar dp un fr gd) (execs ((lawB w.params).drop 3) (lawE w.params L fa cd)) Q No (St s₀ h tk) := by
  obtain ⟨nvs, nn, en, hi⟩ := hn
  obtain ⟨bvs, bn, eb, rb⟩ := hbx
  have hbl : bvs.length = (boxesL ss).length := by rw [rb.length, List.length_map]
  have hb0 := boxes_pos hS
  have hb9 := boxes_len hS
  have hnv : nvs.length = ns.length := hi.length
  dsimp only [lawB, fnBody, List.drop]
  refine wpAny_execs_cons ?_
  refine wpAny_Assign_Name ?_ (by rfl)
  refine compE (cl := [("boxes", L + 2)]) ?_ (by rfl)
  refine wpAny_BinOp ?_
  refine slcV (s₀ := s₀) ?_
  walk_at "gs"
  refine evN ?_
  refine evS ?_
  walk_at "gs"
  refine evN ?_
  refine SV.mk (vs := nvs) (lo := none) (hi := some 20) (k := none) F (F.keep _ _ en) (IsLst.of _ _) (Nat.le_trans (show nvs.length ≤ 60 by (first | lia | omega)) (by decide)) .none (.int _ _) .none (by simp) fun nx2 h2 F => ?_
  rw [show (slicePick nvs.toArray none (some 20) none).toList = nvs.take 20 by rw [show (some (20 : Int)) = some ((20 : Nat) : Int) from rfl, slicePick_upto']] at F
  have hi20 : IntsAre (nvs.take 20) (ns.take 20) := RA.toInts (H := fun _ _ => True) (B := 0) (by rw [List.map_take]; exact (RA.ints hi).take 20)
  refine List_ ?_
  refine spliced_more ?_ (by rfl)
  refine ci fun t1 tk1 q1 => ?_
  refine spliced_more ?_ (by rfl)
  refine ci fun t2 tk2 q2 => ?_
  refine spliced_more ?_ (by rfl)
  refine ci fun t3 tk3 q3 => ?_
  refine spliced_more ?_ (by rfl)
  refine ci fun t4 tk4 q4 => ?_
  refine spliced_none ?_
  refine mkL F (by show 4 ≤ sizeLine; decide) fun lx h3 _ _ F => ?_
  have hl20 : (nvs.take 20).length ≤ 20 := List.length_take_le _ _
  refine r_ladd F (F.of (q := (nx2, lisO (nvs.take 20) 0)) (by walk_at "mm")) (F.of (.head _)) (Nat.le_trans (show (nvs.take 20).length + 4 ≤ 24 by (first | lia | omega)) (by decide)) fun lz h4 k4 F => ?_
  have hi24 := hi20.append (.cons 1 t1 (.cons 4 t2 (.cons 1 t3 (.cons 0 t4 .nil))))
  have e4 := F.of (.head _)
  have G4 := G.keeps F.keep
  have eb4 := F.keep _ _ eb
  have cb4 := cb.keeps F.keep
  refine itrL e4 (IsLst.of _ _) fun I h5 k5 n5 s5 => ?_
  refine comp1 (fun i ws N _ => N = [] ∧ ∃ ds : List (Nat × Nat), RA (At g) 0 ws (ds.map pairD) ∧ ds.length = i ∧ ∀ p ∈ ds, p ∈ boxesL ss) F k5 n5 s5 (fun C => Dr.list (IsLst.of _ _) rfl) (fun q hq => by rw [List.mem_singleton.mp hq]; exact e4) ⟨rfl, [], .nil, rfl, fun _ h => nomatch h⟩ ?_ ?_
  · rintro C D i b l ws m N Is h6 tkj tk6 hi6 hbI t6 t7 ⟨hN, ds, rd, hdl, hdm⟩ F
    replace F := F.eqB hN
    refine drV hbI F fun v hv F => ?_
    obtain ⟨d, hd', rv⟩ := (RA.ints (H := fun _ _ => True) (B := 0) hi24).get hv
    rw [List.getElem?_map, Option.map_eq_some_iff] at hd'
    obtain ⟨x, hx, rfl⟩ := hd'
    cases rv
    refine wpAny_tests_nil ?_
    refine iteT rfl ?_
    walk_at "gs"
    refine callB F G4 (bn_len G4) bv_len ?_
    walk_at "gs"
    refine lenL (F.keep _ _ eb4) (IsLst.of _ _) (by (first | lia | omega)) fun t8 tk8 t9 => ?_
    walk_at "gs"
    refine r_mod (by (first | lia | omega)) fun t10 tk10 t11 => ?_
    have hm0 : 0 ≤ x.fmod (bvs.length : Int) := Int.fmod_nonneg_of_pos _ (by (first | lia | omega))
    have hm1 : x.fmod (bvs.length : Int) < bvs.length := Int.fmod_lt_of_pos _ (by (first | lia | omega))
    obtain ⟨j, hj⟩ := Int.eq_ofNat_of_zero_le hm0
    rw [hj] at hm1 ⊢
    obtain ⟨p, hp⟩ : ∃ p, (boxesL ss)[j]? = some p := ⟨(boxesL ss)[j]'(by (first | lia | omega)), by simp⟩
    obtain ⟨bv, hbv, rbv⟩ := rb.getD (k := j) (d := pairD p) (by rw [List.getElem?_map, hp]; rfl)
    refine itL (F.keep _ _ eb4) (IsLst.of _ _) (Int.natCast_nonneg _) (by (first | lia | omega)) (by rw [Int.toNat_natCast]; exact hbv) ?_
    have hwl : ws.length = i := by rw [rd.length, List.length_map, hdl]
    have hi24' : i < 24 := by
      have := hi6
      simp only [List.length_append, List.length_cons, List.length_nil] at this
      (first | lia | omega)
    exact ⟨_, [], _, _, rfl, by (first | lia | omega), F, Nat.le_trans (show ws.length ≤ 24 by (first | lia | omega)) (by decide), rfl, ds ++ [p], by rw [List.map_append]; exact rd.snoc rbv, by rw [List.length_append, hdl]; rfl, fun q hq => by
      rcases List.mem_append.mp hq with hq | hq
      · exact hdm q hq
      · rw [List.mem_singleton.mp hq]; exact List.mem_of_getElem? hp⟩
  · rintro C D l' ws m N' h6 tkj tk6 t6 t7 ⟨hN, ds, rd, hdl, hdm⟩ F₃
    replace F₃ := F₃.eqC hN
    refine postV F F₃ fun h7 F => ?_
    obtain ⟨vc3, dc3⟩ := c3
    replace F := F.pull 6 (q := (L + 3, o3))
    with_reducible refine' stC ?hc ?F ?hd ?_ ?hk ?hx
    case F => exact F
    case hd => exact dc3
    case hc => rfl
    case hk => rfl
    case hx => rfl
    intro h8 o3' d3' F
    replace F : Fm _ L _ _ _ := F
    refine F.settleJE ([(L + 6, o6), (L + 5, o5), (L + 4, o4)] ++ tabs0) [(L + 3, o3'), (D, lisO ws m)] (by (repeat (first | exact List.Perm.refl _ | refine (perm_idx _ 0 (by rfl)).trans (List.Perm.cons _ ?_) | refine (perm_idx _ 1 (by rfl)).trans (List.Perm.cons _ ?_) | refine (perm_idx _ 2 (by rfl)).trans (List.Perm.cons _ ?_) | refine (perm_idx _ 3 (by rfl)).trans (List.Perm.cons _ ?_) | refine (perm_idx _ 4 (by rfl)).trans (List.Perm.cons _ ?_) | refine (perm_idx _ 5 (by rfl)).trans (List.Perm.cons _ ?_) | refine (perm_idx _ 6 (by rfl)).trans (List.Perm.cons _ ?_) | refine (perm_idx _ 7 (by rfl)).trans (List.Perm.cons _ ?_) | refine (perm_idx _ 8 (by rfl)).trans (List.Perm.cons _ ?_)))) fun g' kg hR F kh => ?_
    try walk_at "gK"
    refine H g' h8 tk6 D ds (by (first | lia | omega)) (G.keeps kg) kg ⟨ws, m, hR (D, lisO ws m) (by simp), rd.mono (fun a o e => kg _ _ e) (Nat.le_refl _)⟩ hdm ?_ ⟨o3', hR (L + 3, o3') (by simp), d3'⟩ F
    rw [hdl]
    simp only [List.length_append, List.length_cons, List.length_nil]
    (first | lia | omega)
end
section
variable {w : World} {loose : List Str} {mean : ExcName → Option Value} {mg mb : Str → Option Value} {dp un : Nat} {fr : Option (List Env)} {gd : Option (List Code)} {s₀ : Shared} {L fa : Addr} {cd : Value} {Q : Flow → Shared → Prop}
theorem seg3 {g h : Heap} {l : List (Str × Value)} {da : Addr} {drawn : List (Nat × Nat)} {o4 o5 o6 : Obj} {tk : Nat} (hd : dp + 50 < recursionLimit) (hu : un + 500 < cLine) (G : Gd w loose mean mg mb g) (hdr : BoxF g da drawn) (hd24 : drawn.length ≤ 24) (hd3 : ∀ p ∈ drawn, p.1 < 3 ∧ p.2 < 3) (cD : Cl g (L + 3) (.ref da))
    (F : Fm g L l ([(L + 6, o6), (L + 5, o5), (L + 4, o4)] ++ tabs0) h) (c4 : IsCell o4)
    (H : ∀ g' l' h' tk' x lx, tk ≤ tk' → Gd w loose mean mg mb g' → Kp g g' → Bag g' tk' x lx drawn → Cl g' (L + 4) (.ref x) → (∀ v, lk l "numbers" = some v → lk l' "numbers" = some v) → (∀ v, lk l "spare" = some v → lk l' "spare" = some v) →
      Fm g' L l' ([(L + 6, o6), (L + 5, o5)] ++ tabs0) h' → wpAny (model MP w) (Ar dp un fr gd) (execs ((lawB w.params).drop 6) (lawE w.params L fa cd)) Q No (St s₀ h' tk')) :
    wpAny (model MP w) (Ar dp un fr gd) (execs ((lawB w.params).drop 4) (lawE w.params L fa cd)) Q No (St s₀ h tk) := by
  obtain ⟨dvs, dn, ed, rd⟩ := hdr
  have hdl : dvs.length = drawn.length := by rw [rd.length, List.length_map]
  dsimp only [lawB, fnBody, List.drop]
  refine wpAny_execs_cons ?_
  refine wpAny_Assign_Name ?_ (by rfl)
  refine callN0 F G (gn_Headers G) ki_Headers ?_
  refine t_new (G.keeps F.keep) dp un fr gd _ _ (by (first | lia | omega)) (by (first | lia | omega)) ?_
  rintro r h5 tk5 t5' kx ⟨x, dx, lx, n, rfl, nx, ⟨hsh, kd, nd⟩, nl⟩
  have d1 : lx ≠ x := fun z => by have := nl.2; rw [z, nx.2] at this; cases this
  have d2 : lx ≠ dx := fun z => by
    have := nl.2
    rw [z, nd.2] at this
    exact absurd (congrArg (fun o => o.map (fun x => x.cls)) this) (by simp [hdD])
  have d3 : x ≠ dx := fun z => by
    have := nx.2
    rw [z, nd.2] at this
    exact absurd (congrArg (fun o => o.map (fun x => x.cls)) this) (by simp [hdD])
  replace F := F.app (tl := [(lx, lisO [] n), (x, instObj 280 dx), (dx, hdD hsh kd (.ref lx))]) (kpx kx) (fun q hq => by
    simp only [List.mem_cons, List.not_mem_nil, or_false] at hq
    rcases hq with rfl | rfl | rfl
    · exact nl
    · exact nx
    · exact nd) (by simp [d1, d2, d3])
  obtain ⟨vc4, dc4⟩ := c4
  replace F := F.pull 2 (q := (L + 4, o4))
  with_reducible refine' stC ?hc ?F ?hd ?_ ?hk ?hx
  case F => exact F
  case hd => exact dc4
  case hc => rfl
  case hk => rfl
  case hx => rfl
  intro h6 o4' d4' F
  replace F : Fm _ L _ _ _ := F
  replace F := F.perm (show List.Perm _ ((lx, lisO [] n) :: ([(x, instObj 280 dx), (dx, hdD hsh kd (.ref lx))] ++ ((L + 4, o4') :: ([(L + 6, o6), (L + 5, o5)] ++ tabs0)))) from by (repeat (first | exact List.Perm.refl _ | refine (perm_idx _ 0 (by rfl)).trans (List.Perm.cons _ ?_) | refine (perm_idx _ 1 (by rfl)).trans (List.Perm.cons _ ?_) | refine (perm_idx _ 2 (by rfl)).trans (List.Perm.cons _ ?_) | refine (perm_idx _ 3 (by rfl)).trans (List.Perm.cons _ ?_) | refine (perm_idx _ 4 (by rfl)).trans (List.Perm.cons _ ?_) | refine (perm_idx _ 5 (by rfl)).trans (List.Perm.cons _ ?_) | refine (perm_idx _ 6 (by rfl)).trans (List.Perm.cons _ ?_) | refine (perm_idx _ 7 (by rfl)).trans (List.Perm.cons _ ?_) | refine (perm_idx _ 8 (by rfl)).trans (List.Perm.cons _ ?_))))
  refine wpAny_execs_cons ?_
  refine wpAny_For ?_ (by intro _; rfl)
  refine callT F G (bn_enumerate G) bv_enumerate ?_
  walk_at "gs"
  refine r_enum (F.keep _ _ ed) (IsLst.of _ _) fun E I h7 Is k7 n7 nd7 s7 hEI => ?_
  refine EnIt.iter s7 (fun q hq => (n7 q hq).2) ?_
  replace F := F.itsN k7 n7 nd7
  refine forD (src := [(da, lisO dvs dn)]) (fun i l' N tkc => ∀ G : Prop, ((∀ v, lk l "numbers" = some v → lk l' "numbers" = some v) → (∀ v, lk l "spare" = some v → lk l' "spare" = some v) → ∀ es bvs bn Tt, N = (lx, lisO bvs bn) :: (Tt ++ ((L + 4, o4') :: ([(L + 6, o6), (L + 5, o5)] ++ tabs0))) → RA (In Tt) tkc bvs (es.map fun e : Str × Str => Dat.tuple [.str e.1, .str e.2]) → es.map (fun e => (Txt.lower e.1, e.2)) = (drawn.take i).map (fun p => (rp "a" (p.1 + 1), rp "x" (p.2 + 1))) → es.length = i → (x, instObj 280 dx) ∈ Tt → (dx, hdD hsh kd (.ref lx)) ∈ Tt → G) → G)
    (Dr.enum (IsLst.of _ _) hEI rfl) F s7 (fun _ kZ => kZ (fun _ h => h) (fun _ h => h) [] [] n [(x, instObj 280 dx), (dx, hdD hsh kd (.ref lx))] rfl .nil rfl rfl (.head _) (.tail _ (.head _))) (fun _ _ _ _ _ q hq => by rw [List.mem_singleton.mp hq]; exact .inl ed) ?_ ?_
  · rintro i b l' N Is h8 tkj tk8 _ _ hi hbI hS t7 t8 hJJ F
    refine hJJ _ fun l1 l2 es bvs bn Tt hN RT hes hel mx md => ?_
    replace F := F.eqA hN
    obtain ⟨p, hp⟩ : ∃ p, drawn[i]? = some p := ⟨drawn[i]'(by (first | lia | omega)), by simp⟩
    have hp3 := hd3 p (List.mem_of_getElem? hp)
    refine drE hbI F fun tb v hv F => ?_
    refine (rd.at hv hp).pairE fun a n2 t1 t2 ev hm => ?_
    replace F := F.val ev
    walk_at "g"
    refine wpAny_Expr_any ?_
    refine MethodCall_ ?_
    refine nmC (by rfl) (F.of (q := (L + 4, o4')) (by walk_at "mm")) d4' ?_
    have Hh : Hd h8 x dx lx := ⟨F.of (q := (x, instObj 280 dx)) (by walk_at "mm"), hsh, kd, F.of (q := (dx, hdD hsh kd (.ref lx))) (by walk_at "mm")⟩
    refine r_mthH G F.keep Hh (f := 277) (by kernel_rfl) (by kernel_rfl) (hd_sh lx _ (by decide)) ?_
    refine callWith_K (h₀ := g) G.K ki_addh ?_
    refine spliced_more ?_ (by rfl)
    refine wpAny_BinOp ?_
    refine Subscript_ ?_
    refine cstr fun t3 tk3 q3 q3' => ?_
    walk_at "gs"
    rename_i q4
    refine r_mod (by decide) fun t5 tk5' q5 => ?_
    have e2 : (i : Int).fmod 2 = ((i % 2 : Nat) : Int) := fmod_nat i 2
    rw [e2]
    obtain ⟨ch, nmx, hch, rfl, hnx⟩ : ∃ (ch : Nat) (nmx : Str), (("aA" : Str)).cps[i % 2]? = some ch ∧ nmx = ⟨#[ch]⟩ ∧ (nmx = "a" ∨ nmx = "A") := by
      have : i % 2 = 0 ∨ i % 2 = 1 := by (first | lia | omega)
      rcases this with h | h
      · rw [h]; exact ⟨97, _, by decide, rfl, .inl (by decide)⟩
      · rw [h]; exact ⟨65, _, by decide, rfl, .inr (by decide)⟩
    refine r_sitem (k := i % 2) (by show i % 2 < 2; (first | lia | omega)) (by (first | lia | omega)) hch fun t6 tk6 q6 q6' => ?_
    have hlow := rp_low p.1 hp3.1
    have hxx := rp_low p.2 hp3.2
    generalize (⟨#[ch]⟩ : Str) = nmx at hnx
    have hnm : okS nmCode (rp nmx (p.1 + 1)) = true ∧ Txt.lower (rp nmx (p.1 + 1)) = rp "a" (p.1 + 1) ∧ (rp nmx (p.1 + 1)).cps.size < 1000 ∧ rp nmx 1 = nmx ∧ nmx.length = 1 := by
      rcases hnx with rfl | rfl
      · exact ⟨hlow.2.2.1, hlow.1, by rw [hlow.2.2.2.2.2.1]; (first | lia | omega), rp_one.1, by decide⟩
      · exact ⟨hlow.2.2.2.1, hlow.2.1, by rw [hlow.2.2.2.2.2.2.1]; (first | lia | omega), rp_one.2.1, by decide⟩
    walk_at "gs"
    refine itT (j := 0) (F.keep _ _ hm) (by decide) (by decide) (by rfl) rfl ?_
    walk_at "gs"
    rename_i q7 _ _ q8
    rw [show ((p.1 : Int) + 1) = ((p.1 + 1 : Nat) : Int) from rfl]
    refine r_smul (n := p.1 + 1) (by (first | lia | omega)) (by rw [hnm.2.2.2.2]; (first | lia | omega)) (by rw [hnm.2.2.2.2]; exact Nat.le_refl _) (Nat.le_trans q6' (by (first | lia | omega))) hnm.2.2.2.1 fun tn tk9 t9 q9 q10 => ?_
    refine spliced_more ?_ (by rfl)
    refine wpAny_BinOp ?_
    refine cstr fun t10 tk10 q11 q11' => ?_
    walk_at "gs"
    refine itT (j := 1) (F.keep _ _ hm) (by decide) (by decide) (by rfl) rfl ?_
    walk_at "gs"
    rename_i q12 _ _ q13
    rw [show ((p.2 : Int) + 1) = ((p.2 + 1 : Nat) : Int) from rfl]
    refine r_smul (n := p.2 + 1) (by (first | lia | omega)) (by show 1 * (p.2 + 1) ≤ 1000; (first | lia | omega)) (by decide) (Nat.le_trans q11' (by (first | lia | omega))) rp_one.2.2.1 fun tx tk14 t14 q14 q15 => ?_
    walk_at "gs"
    refine ⟨G.K.keeps F.keep, ?_⟩
    have glx : g.get? lx = none := (F.led (lx, lisO bvs bn) (by walk_at "mm")).2.2
    have hbl : bvs.length = es.length := by rw [RT.length, List.length_map]
    refine t_addh x dx lx (vs := bvs) (kk := bn) (G.keeps (kp_but F.keep (fun b hb => by rw [List.mem_singleton.mp hb]; exact glx)))
      ⟨hideAll_get _ (F.of (q := (x, instObj 280 dx)) (by walk_at "mm")) (by simpa using d1.symm), hsh, kd, hideAll_get _ (F.of (q := (dx, hdD hsh kd (.ref lx))) (by walk_at "mm")) (by simpa using d2.symm)⟩
      (F.of (q := (lx, lisO bvs bn)) (by walk_at "mm")) (rp nmx (p.1 + 1)) (rp "x" (p.2 + 1)) tn tx hnm.1 hxx.2.2.2.2.1 hnm.2.2.1 (by rw [hxx.2.2.2.2.2.2.2]; (first | lia | omega)) (by (first | lia | omega)) dp un fr gd _ _ (by (first | lia | omega)) (by (first | lia | omega)) ?_
    rintro r40 h40 tk40 t40 kx40 ⟨ta, k', j', e40, n40⟩
    replace F := (F.perm List.perm_middle).updNew kx40 e40 n40
    replace F := F.perm (show List.Perm _ (Is ++ (lx, lisO (bvs ++ [.ref ta]) k') :: (((ta, tupO [.str (rp nmx (p.1 + 1)) tn, .str (rp "x" (p.2 + 1)) tx] j') :: Tt) ++ ((L + 4, o4') :: ([(L + 6, o6), (L + 5, o5)] ++ tabs0)))) from (List.Perm.swap _ _ _).trans ((List.Perm.cons _ (by rw [List.cons_append]; exact List.perm_middle.symm)).trans List.perm_middle.symm))
    walk_at "gs"
    refine TnD.next F (fun _ kZ => kZ (fun v hv => by show lk (("box", _) :: ("turn", _) :: l') "numbers" = some v; exact l1 v hv) (fun v hv => by show lk (("box", _) :: ("turn", _) :: l') "spare" = some v; exact l2 v hv) (es ++ [(rp nmx (p.1 + 1), rp "x" (p.2 + 1))]) _ k' _ rfl ?_ ?_ (by rw [List.length_append, hel]; rfl) (.tail _ mx) (.tail _ md))
    · rw [List.map_append]
      refine (RT.mono (fun a o hm => List.Mem.tail _ hm) (by (first | lia | omega))).snoc (.tuple (.head _) (.cons (.str _ _ (Nat.ne_of_gt (Nat.lt_of_lt_of_le (Nat.lt_of_le_of_lt (Nat.zero_le _) q6) q9)) (Nat.le_trans q10 (by (first | lia | omega)))) (.cons (.str _ _ (Nat.ne_of_gt (Nat.lt_of_lt_of_le (Nat.lt_of_le_of_lt (Nat.zero_le _) q11) q14)) (Nat.le_trans q15 (by (first | lia | omega)))) .nil)))
    · rw [List.map_append, hes, List.take_add_one, hp, List.map_append]
      show _ ++ [(Txt.lower (rp nmx (p.1 + 1)), rp "x" (p.2 + 1))] = _
      rw [hnm.2.1]; rfl
  · rintro l' N h8 tkj tk8 t7 t8 hJJ F
    refine hJJ _ fun l1 l2 es bvs bn Tt hN RT hes hel mx md => ?_
    replace F := F.eqN hN
    rw [hdl, List.take_length] at hes
    try dsimp only
    refine F.settleE ([(L + 6, o6), (L + 5, o5)] ++ tabs0) ((L + 4, o4') :: (lx, lisO bvs bn) :: Tt) (by
      refine List.Perm.trans ?_ List.perm_append_comm
      refine List.Perm.trans (List.Perm.cons _ List.perm_middle) ?_
      exact List.Perm.swap _ _ _) fun g' kg hR F kh => ?_
    try walk_at "gK"
    refine H g' l' h8 tk8 x lx (by (first | lia | omega)) (G.keeps kg) kg ⟨dx, bn, bvs, es, ⟨hR (x, instObj 280 dx) (by simp [mx]), hsh, kd, hR (dx, hdD hsh kd (.ref lx)) (by simp [md])⟩, hR (lx, lisO bvs bn) (by simp), RT.mono (fun a o hm => hR (a, o) (by have : (a, o) ∈ Tt := hm; simp [this])) (by (first | lia | omega)), hes, hd3⟩ ⟨o4', hR (L + 4, o4') (by simp), d4'⟩ l1 l2 F
end
noncomputable def hookS (drawn : List (Nat × Nat)) (ln : Nat) : List Str := (drawn.filter (fun p => p.1 == ln)).map (fun p => rp "x" (p.2 + 1))
noncomputable def hookD (drawn : List (Nat × Nat)) (i : Nat) : List Dat := (List.range i).map fun ln => .list ((hookS drawn ln).map Dat.str)
theorem rpx_ok : ∀ k : Nat, k < 3 → PyData.strOk (rp "x" (k + 1)) = true := by
  have : ∀ k : Fin 3, PyData.strOk (rp "x" (k.val + 1)) = true := by decide +kernel
  exact fun k hk => this ⟨k, hk⟩
theorem hookD_ok {drawn : List (Nat × Nat)} (hd3 : ∀ p ∈ drawn, p.1 < 3 ∧ p.2 < 3) (i : Nat) : kqdOk 9 (.list (hookD drawn i)) = true := by
  have : ∀ d ∈ hookD drawn i, kqdOk 8 d = true := by
    intro d hd
    obtain ⟨ln, _, rfl⟩ := List.mem_map.mp hd
    have : ∀ e ∈ (hookS drawn ln).map Dat.str, kqdOk 7 e = true := by
      intro e he
      obtain ⟨x, hx, rfl⟩ := List.mem_map.mp he
      obtain ⟨p, hp, rfl⟩ := List.mem_map.mp hx
      show PyData.strOk _ = true
      exact rpx_ok _ (hd3 p (List.mem_filter.mp hp).1).2
    show ((hookS drawn ln).map Dat.str).all (kqdOk 7) = true
    exact List.all_eq_true.mpr this
  show (hookD drawn i).all (kqdOk 8) = true
  exact List.all_eq_true.mpr this
section
variable {w : World} {loose : List Str} {mean : ExcName → Option Value} {mg mb : Str → Option Value} {dp un : Nat} {fr : Option (List Env)} {gd : Option (List Code)} {s₀ : Shared} {L fa : Addr} {cd : Value} {Q : Flow → Shared → Prop}
theorem seg4 {g h : Heap} {l : List (Str × Value)} {sa da x lx : Addr} {ss : List Nat} {drawn : List (Nat × Nat)} {B : Nat} {W : Ld} {tk : Nat} (hd : dp + 50 < recursionLimit) (hu : un + 500 < cLine) (G : Gd w loose mean mg mb g) (hS : Shp ss) (hsz : NatF g sa ss) (cs : Cl g (L + 1) (.ref sa)) (hdr : BoxF g da drawn) (hd24 : drawn.length ≤ 24) (hd3 : ∀ p ∈ drawn, p.1 < 3 ∧ p.2 < 3) (cD : Cl g (L + 3) (.ref da))
    (hb : Bag g B x lx drawn) (hB : B ≤ tk) (cb : Cl g (L + 4) (.ref x)) (F : Fm g L l W h)
    (H : ∀ g' l' h' tk', tk ≤ tk' → Gd w loose mean mg mb g' → Kp g g' → (∀ v, lk l "numbers" = some v → lk l' "numbers" = some v) → (∀ v, lk l "spare" = some v → lk l' "spare" = some v) →
      Fm g' L l' W h' → wpAny (model MP w) (Ar dp un fr gd) (execs ((lawB w.params).drop 8) (lawE w.params L fa cd)) Q No (St s₀ h' tk')) :
    wpAny (model MP w) (Ar dp un fr gd) (execs ((lawB w.params).drop 6) (lawE w.params L fa cd)) Q No (St s₀ h tk) := by
  have S := hS.sh
  have hR3 := S.R3
  obtain ⟨svs, sn, es, hsi⟩ := hsz
  have hsl : svs.length = ss.length := by rw [hsi.length, List.length_map]
  obtain ⟨dvs, dn, ed, rd⟩ := hdr
  have hdl : dvs.length = drawn.length := by rw [rd.length, List.length_map]
  obtain ⟨src, snd, ssrc, ras⟩ := RA.led (fun a o o' (e1 : g.get? a = some o) e2 => Option.some.inj (e1.symm.trans e2)) rd
  dsimp only [lawB, fnBody, List.drop]
  refine wpAny_execs_cons ?_
  refine compA ?_ (by rfl)
  refine callT F G (bn_range G) bv_range ?_
  refine spliced_more ?_ (by rfl)
  refine callB F G (bn_len G) bv_len ?_
  walk_at "gs"
  refine lenL (F.keep _ _ es) (IsLst.of _ _) (by (first | lia | omega)) fun t1 tk1 q1 => ?_
  walk_at "gs"
  refine rg1 fun r h2 tk2 u2 v2 t2 k2 n2 => ?_
  refine itr1 (n := ss.length) n2.2 (by (first | lia | omega)) (by (first | lia | omega)) (by (first | lia | omega)) fun I h3 k3 n3 s3 => ?_
  replace F := F.kp k2
  have G2 := G.keeps F.keep
  have ed2 := F.keep _ _ ed
  have cD2 := cD.keeps F.keep
  have ssrc2 : ∀ q ∈ src, h2.get? q.1 = some q.2 := fun q hq => F.keep _ _ (ssrc q hq)
  have hB2 : B ≤ tk2 := by (first | lia | omega)
  refine compGo0 (S := fun C => RgC I (C + 1) 0 1 ss.length) (cl2 := fun C => _) (ce := fun C => [(C + 1, { cls := .type "cell", data := .cell none })]) (fun i l ws N tkc => RA (In N) tkc ws (hookD drawn i)) (fun C D => _) F k3 n3 (List.nodup_cons.mpr ⟨(fun h => nomatch h), List.nodup_nil⟩) (fun C => Dr.rangeC (by rfl) rfl) (fun q hq => nomatch hq)
    (fun C => ⟨_, rfl, ⟨_, rfl⟩, fun i' e => by (first | lia | omega)⟩) .nil (fun C D => .inl ⟨rfl, rfl⟩) ?_ ?_ (fun C => rfl) (fun h C hC => ⟨fun q hq => by rw [List.mem_singleton.mp hq, ← hC]; exact new_push _ _, by simp⟩)
  · rintro C D i b l ws m N Is h4 tkj tk4 hi rfl ⟨oc, rfl, hoc, hoc2⟩ t3 t4 RW F
    obtain ⟨tt, hoc2⟩ := hoc2 i rfl
    refine wpAny_tests_nil ?_
    refine iteT rfl ?_
    refine emitR (L := C) (s₀ := s₀) (g := h2) ?_
    have kt : Cl h4 (C + 1) (.int (0 + (i : Int) * 1) tt) := ⟨oc, F.of (q := (C + 1, oc)) (by walk_at "mm"), hoc2⟩
    refine compE ?_ (by rfl)
    walk_at "gs"
    refine itrL (F.keep _ _ ed2) (IsLst.of _ _) fun I2 h5 k5 n5 s5 => ?_
    have e4 := F.keep _ _ ed2
    refine comp1 (fun i2 ws N tkc => N = [] ∧ RA (fun _ _ => False) tkc ws ((((drawn.take i2).filter (fun p => p.1 == i)).map (fun p => rp "x" (p.2 + 1))).map Dat.str) ∧ ws.length ≤ i2) F k5 n5 s5
      (fun C => Dr.pairs (IsLst.of _ _) rfl src ras.prs) (fun q hq => by
        rcases List.mem_cons.mp hq with rfl | hq
        · exact e4
        · exact F.keep _ _ (ssrc2 q hq)) ⟨rfl, .nil, Nat.le_refl _⟩ ?_ ?_
    · rintro C2 D2 i2 b l2 ws2 m2 N2 Is2 h6 tkj6 tk6 hi2 hbI t5 t6 ⟨hN, RS, hwl⟩ F
      replace F := F.eqB hN
      obtain ⟨p, hp⟩ : ∃ p, drawn[i2]? = some p := ⟨drawn[i2]'(by (first | lia | omega)), by simp⟩
      have hp3 := hd3 p (List.mem_of_getElem? hp)
      refine drP ras ssrc hbI F hp fun tr tc F => ?_
      have ct : (drawn.take (i2 + 1)).filter (fun p => p.1 == i) = (drawn.take i2).filter (fun p => p.1 == i) ++ (if p.1 = i then [p] else []) := by
        rw [List.take_add_one, hp, List.filter_append]
        by_cases h : p.1 = i <;> simp [h]
      refine wpAny_tests_one ?_
      walk_at "gs"
      refine iteP (fun hs => ?_) fun hs => ?_
      · skip
        have hs : p.1 = i := by have := beq_iff_eq.mp hs; (first | lia | omega)
        refine wpAny_BinOp ?_
        refine cstr fun t7 tk7 q7 q7' => ?_
        walk_at "gs"
        rename_i q8 _ _ q9
        rw [show ((p.2 : Int) + 1) = ((p.2 + 1 : Nat) : Int) from rfl]
        refine r_smul (n := p.2 + 1) (by (first | lia | omega)) (by show 1 * (p.2 + 1) ≤ 1000; (first | lia | omega)) (by decide) (Nat.le_trans q7' (by (first | lia | omega))) rp_one.2.2.1 fun tx tk8 t8 q10 q11 => ?_
        refine CE.mk (N := []) (by (first | lia | omega)) F (Nat.le_trans (show ws2.length ≤ 24 by (first | lia | omega)) (by decide)) ⟨rfl, ?_, by rw [List.length_append]; simp; (first | lia | omega)⟩
        rw [ct, if_pos hs, List.map_append, List.map_append]
        exact (RS.mono (fun _ _ h => h) (by (first | lia | omega))).snoc (.str _ _ (Nat.ne_of_gt (Nat.lt_of_lt_of_le (Nat.lt_of_le_of_lt (Nat.zero_le _) q7) q10)) q11)
      · skip
        have hs : ¬ p.1 = i := fun z => hs (beq_iff_eq.mpr (by (first | lia | omega)))
        exact CS.mk (N := []) (by (first | lia | omega)) F ⟨rfl, by rw [ct, if_neg hs, List.append_nil]; exact RS.mono (fun _ _ h => h) (by (first | lia | omega)), by (first | lia | omega)⟩
    · rintro C2 D2 l2 ws2 m2 N2 h6 tkj6 tk6 t5 t6 ⟨hN, RS, hwl⟩ F₃
      replace F₃ := F₃.eqC hN
      rw [hdl, List.take_length] at RS
      refine postV F F₃ fun h7 F => ?_
      have hcl : ws.length = i := by rw [RW.length]; simp [hookD]
      refine ER.mk (vs := ws) (m := m) (N := [(I, _), (C + 1, oc)] ++ (N ++ [(D2, lisO ws2 m2)])) (F.perm ?_) (Nat.le_trans (show ws.length ≤ 3 by (first | lia | omega)) (by decide)) fun h8 m8 F => CT.mk (by (first | lia | omega)) F ?_
      · simp only [List.cons_append, List.append_assoc]
        exact List.Perm.refl _
      · unfold hookD
        rw [List.range_succ, List.map_append]
        exact (RW.mono (fun a o hm => List.mem_append.mpr (.inl hm)) (by (first | lia | omega))).snoc (.list (List.mem_append.mpr (.inr (.head _))) (IsLst.of _ _) ((ra_strs RS).mono (fun _ _ h => h) (by (first | lia | omega))))
  · rintro C D l' ws m N' h4 tkj tk4 t3 t4 RW F₃
    refine postA F F₃ fun h5 tk5 t5 F => ?_
    walk_at "g"
    refine wpAny_If ?_
    refine wpAny_isTrue_Compare1 ?_ (by rfl)
    refine compE ?_ (by rfl)
    refine callT F G (bn_range G) bv_range ?_
    refine spliced_more ?_ (by rfl)
    refine callB F G (bn_len G) bv_len ?_
    walk_at "gs"
    refine lenL (F.keep _ _ es) (IsLst.of _ _) (by (first | lia | omega)) fun t6 tk6 q6 => ?_
    walk_at "gs"
    refine rg1 fun r7 h7 tk7 u7 v7 t7 k7 n7 => ?_
    refine itr1 (n := ss.length) n7.2 (by (first | lia | omega)) (by (first | lia | omega)) (by (first | lia | omega)) fun I8 h8 k8 n8 s8 => ?_
    replace F := F.kp k7
    have G7 := G.keeps F.keep
    have hb7 := hb.keeps F.keep (Nat.le_refl B)
    have cb7 := cb.keeps F.keep
    refine comp1 (fun i ws2 N _ => RA (In N) B ws2 (hookD drawn i)) F k8 n8 s8 (fun C => Dr.range rfl) (fun q hq => nomatch hq) .nil ?_ ?_
    · rintro C2 D2 i b l2 ws2 m2 N2 Is2 h9 tkj9 tk9 hi hbI t8 t9 RW2 F
      refine drT hbI F fun tb F => ?_
      have hev : (0 : Int) + (i : Int) * 1 = (i : Nat) := by (first | lia | omega)
      rw [hev] at F
      refine wpAny_tests_nil ?_
      refine iteT rfl ?_
      refine MethodCall_ ?_
      walk_at "gs"
      obtain ⟨dx, nb, bs, bes, Hh, eb, hbR, hes, hv⟩ := id hb7
      refine r_mthH G7 F.keep (Hh.keeps F.keep) (f := 219) (by kernel_rfl) (by kernel_rfl) (hd_sh lx _ (by decide)) ?_
      refine callWith_K (h₀ := h7) G7.K ki_getall ?_
      refine spliced_more ?_ (by rfl)
      refine wpAny_BinOp ?_
      refine cstr fun t10 tk10 q10 q10' => ?_
      walk_at "gs"
      rename_i q11 _ _ q12
      rw [show ((i : Int) + 1) = ((i + 1 : Nat) : Int) from rfl]
      refine r_smul (n := i + 1) (by (first | lia | omega)) (by show 1 * (i + 1) ≤ 1000; (first | lia | omega)) (by decide) (Nat.le_trans q10' (by (first | lia | omega))) rp_one.2.1 fun tn tk13 t13 q13 q14 => ?_
      walk_at "gs"
      refine ⟨G7.K.keeps F.keep, ?_⟩
      have hlow := rp_low i (by (first | lia | omega))
      have hlen : bs.length = drawn.length := by
        have := congrArg List.length hes
        simpa [hbR.length] using this
      refine t_getall (B := B) x dx lx (G7.keeps F.keep) (Hh.keeps F.keep) (F.keep _ _ eb) (IsLst.of _ _) (hbR.mono (fun a o e => F.keep _ _ e) (Nat.le_refl _)) (by (first | lia | omega)) _ tn (by rw [hlow.2.1]; exact hlow.2.2.1) (by rw [hlow.2.1, hlow.2.2.2.2.2.1]; (first | lia | omega)) ?_ (bag_fit hes hv) dp un fr gd _ _ (by (first | lia | omega)) (by (first | lia | omega)) ?_
      · rw [hlow.2.1]
        show decide ((rp "a" (i + 1)).cps.size > sizeLine) = false
        rw [hlow.2.2.2.2.2.1]
        have : (4 : Nat) ≤ sizeLine := by decide
        exact decide_eq_false (by (first | lia | omega))
      rintro r14 h14 tk14 t14 kx ⟨ta14, k14, ws14, rfl, n14, R14⟩
      have te : (bes.filter (fun e => Txt.lower e.1 == Txt.lower (rp "A" (i + 1)))).map (fun e => Dat.str e.2) = (hookS drawn i).map Dat.str := by
        unfold hookS
        rw [← told_eq hes hv hlow.2.1 (by (first | lia | omega)), List.map_map]; rfl
      replace R14 : RA (fun _ _ => False) B ws14 ((hookS drawn i).map Dat.str) := ra_strs (te ▸ R14)
      replace F := F.new (kpx kx) n14.1 n14.2
      have hcl : ws2.length = i := by rw [RW2.length]; simp [hookD]
      refine CE.mk (N := N2 ++ [(ta14, lisO ws14 k14)]) (by (first | lia | omega)) (F.perm ?_) (Nat.le_trans (show ws2.length ≤ 3 by (first | lia | omega)) (by decide)) ?_
      · refine (List.Perm.swap _ _ _).trans (List.Perm.cons _ ?_)
        simp only [← List.append_assoc]
        exact (List.perm_append_singleton _ _).symm
      · unfold hookD
        rw [List.range_succ, List.map_append]
        exact (RW2.mono (fun a o hm => List.mem_append.mpr (.inl hm)) (Nat.le_refl _)).snoc (.list (List.mem_append.mpr (.inr (.head _))) (IsLst.of _ _) (ra_strs R14))
    · rintro C2 D2 l2 ws2 m2 N2 h9 tkj9 tk9 t8 t9 RW2 F₃
      refine postV F F₃ fun h10 F => ?_
      walk_at "gs"
      refine ne_same (d := .list (hookD drawn ss.length)) (B := B) (B' := tkj) (.list (F.of (q := (D2, lisO ws2 m2)) (by walk_at "mm")) (IsLst.of _ _) (RW2.mono (fun a o hm => F.of (q := (a, o)) (by have : (a, o) ∈ N2 := hm; walk_at "mm")) (Nat.le_refl _)))
        (.list (F.of (q := (D, lisO ws m)) (by walk_at "mm")) (IsLst.of _ _) (RW.mono (fun a o hm => F.of (q := (a, o)) (by have : (a, o) ∈ N' := hm; simp [this])) (Nat.le_refl _))) (hookD_ok hd3 _) (by show un + 64 < cLine; (first | lia | omega)) ?_
      walk_at "gs"
      refine wpAny_execs_nil ?_
      obtain ⟨g', kg, F, kh⟩ : ∃ g', Kp g g' ∧ Fm g' L _ W h10 ∧ Kp g' h10 := by
        refine F.settleJE W [] (by simp only [List.append_assoc, List.nil_append]; exact List.Perm.refl _) fun g' kg _ F kh => ?_
        exact ⟨g', kg, F, kh⟩
      refine Le.go Kz ?_
      exact H g' (("hooks", .ref D) :: l) h10 tk9 (by (first | lia | omega)) (G.keeps kg) kg (fun v hv => by show lk (("hooks", _) :: l) "numbers" = some v; exact hv) (fun v hv => by show lk (("hooks", _) :: l) "spare" = some v; exact hv) F
end
section
variable {w : World} {loose : List Str} {mean : ExcName → Option Value} {mg mb : Str → Option Value} {dp un : Nat} {fr : Option (List Env)} {gd : Option (List Code)} {s₀ : Shared} {L fa : Addr} {cd : Value} {Q : Flow → Shared → Prop}
noncomputable def GrdF (g : Heap) (a : Addr) (rows : List (List Nat)) : Prop := RD (At g) 0 (.ref a) (gD rows)
theorem GrdF.keeps {g g' : Heap} {a : Addr} {rows : List (List Nat)} (x : GrdF g a rows) (k : Kp g g') : GrdF g' a rows := RD.mono (fun _ _ e => k _ _ e) (Nat.le_refl _) x
theorem seg5 {g h : Heap} {l : List (Str × Value)} {sa x lx : Addr} {ss : List Nat} {drawn : List (Nat × Nat)} {B : Nat} {gf : Grd} {o5 o6 : Obj} {tk : Nat} (hd : dp + 50 < recursionLimit) (hu : un + 500 < cLine) (G : Gd w loose mean mg mb g) (hS : Shp ss) (hsz : NatF g sa ss) (cs : Cl g (L + 1) (.ref sa)) (hd24 : drawn.length ≤ 24)
    (hb : Bag g B x lx drawn) (hB : B ≤ tk) (cb : Cl g (L + 4) (.ref x)) (P : Puts (sh ss) zeroG (opR (sh ss) (fun r c => drawn.count (r, c)) ss.length) gf) (F : Fm g L l ([(L + 6, o6), (L + 5, o5)] ++ tabs0) h) (c5 : IsCell o5)
    (H : ∀ g' h' tk' ga, tk ≤ tk' → Gd w loose mean mg mb g' → Kp g g' → GrdF g' ga (rowsOf (sh ss) ss.length gf) → Cl g' (L + 5) (.ref ga) →
      Fm g' L l ([(L + 6, o6)] ++ tabs0) h' → wpAny (model MP w) (Ar dp un fr gd) (execs ((lawB w.params).drop 9) (lawE w.params L fa cd)) Q No (St s₀ h' tk')) :
    wpAny (model MP w) (Ar dp un fr gd) (execs ((lawB w.params).drop 8) (lawE w.params L fa cd)) Q No (St s₀ h tk) := by
  obtain ⟨svs, sn, es, hsi⟩ := hsz
  dsimp only [lawB, fnBody, List.drop]
  refine wpAny_execs_cons ?_
  refine wpAny_Assign_Name ?_ (by rfl)
  refine callN F G (gn_law_put G) ki_law_put fun Qc Kc => ?_
  walk_at "gs"
  refine CN.mk F.keep ?_
  refine t_put (G.keeps F.keep) (F.keep _ _ es) (IsLst.of _ _) hsi hS (hb.keeps F.keep (Nat.le_refl _)) hB (by (first | lia | omega)) P dp un fr gd _ _ (by (first | lia | omega)) (by (first | lia | omega)) ?_
  rintro r h3 tk3 t3 kx ⟨ga, rfl, R3⟩
  refine Le.go Kc ?_
  try clear Kc Qc
  try dsimp only
  obtain ⟨t, F, R4⟩ := F.made (kpx kx) R3
  obtain ⟨vc5, dc5⟩ := c5
  replace F := F.pull 1 (q := (L + 5, o5))
  with_reducible refine' stC ?hc ?F ?hd ?_ ?hk ?hx
  case F => exact F
  case hd => exact dc5
  case hc => rfl
  case hk => rfl
  case hx => rfl
  intro h4 o5' d5' F
  replace F : Fm _ L _ _ _ := F
  refine F.settleE ([(L + 6, o6)] ++ tabs0) ((L + 5, o5') :: t) (by (repeat (first | exact List.Perm.refl _ | refine (perm_idx _ 0 (by rfl)).trans (List.Perm.cons _ ?_) | refine (perm_idx _ 1 (by rfl)).trans (List.Perm.cons _ ?_) | refine (perm_idx _ 2 (by rfl)).trans (List.Perm.cons _ ?_) | refine (perm_idx _ 3 (by rfl)).trans (List.Perm.cons _ ?_) | refine (perm_idx _ 4 (by rfl)).trans (List.Perm.cons _ ?_) | refine (perm_idx _ 5 (by rfl)).trans (List.Perm.cons _ ?_) | refine (perm_idx _ 6 (by rfl)).trans (List.Perm.cons _ ?_) | refine (perm_idx _ 7 (by rfl)).trans (List.Perm.cons _ ?_) | refine (perm_idx _ 8 (by rfl)).trans (List.Perm.cons _ ?_)))) fun g' kg hR F kh => ?_
  try walk_at "gK"
  exact H g' h4 tk3 ga (by (first | lia | omega)) (G.keeps kg) kg (R4.mono (fun a o hm => hR (a, o) (.tail _ hm)) (Nat.le_refl _)) ⟨o5', hR (L + 5, o5') (.head _), d5'⟩ F
theorem seg6 {g h : Heap} {l : List (Str × Value)} {sa ba : Addr} {ss : List Nat} {o6 : Obj} {tk : Nat} (hd : dp + 50 < recursionLimit) (hu : un + 500 < cLine) (G : Gd w loose mean mg mb g) (hS : Shp ss) (hsz : NatF g sa ss) (cs : Cl g (L + 1) (.ref sa)) (hbx : BoxF g ba (boxesL ss)) (cb : Cl g (L + 2) (.ref ba))
    (F : Fm g L l ([(L + 6, o6)] ++ tabs0) h) (c6 : IsCell o6)
    (H : ∀ g' h' tk' la, tk ≤ tk' → Gd w loose mean mg mb g' → Kp g g' → NatF g' la ((boxesL ss).map (hk (sh ss) ss.length)) → Cl g' (L + 6) (.ref la) →
      Fm g' L l tabs0 h' → wpAny (model MP w) (Ar dp un fr gd) (execs ((lawB w.params).drop 10) (lawE w.params L fa cd)) Q No (St s₀ h' tk')) :
    wpAny (model MP w) (Ar dp un fr gd) (execs ((lawB w.params).drop 9) (lawE w.params L fa cd)) Q No (St s₀ h tk) := by
  have S := hS.sh
  obtain ⟨svs, sn, es, hsi⟩ := hsz
  have hsl : svs.length = ss.length := by rw [hsi.length, List.length_map]
  have hsv : ∀ i, i < ss.length → ∃ t, svs[i]? = some (.int (sh ss i : Nat) t) := fun i h => ints_get hsi (by simp [sh, h])
  obtain ⟨bvs, bn, eb, rb⟩ := hbx
  have hbl : bvs.length = (boxesL ss).length := by rw [rb.length, List.length_map]
  have hb9 := boxes_len hS
  obtain ⟨src, snd, ssrc, ras⟩ := RA.led (fun a o o' (e1 : g.get? a = some o) e2 => Option.some.inj (e1.symm.trans e2)) rb
  dsimp only [lawB, fnBody, List.drop]
  refine wpAny_execs_cons ?_
  refine wpAny_Assign_Name ?_ (by rfl)
  refine compE ?_ (by rfl)
  walk_at "gs"
  refine itrL (F.keep _ _ eb) (IsLst.of _ _) fun I h2 k2 n2 s2 => ?_
  have Gh := G.keeps F.keep
  have csh := cs.keeps F.keep
  have esh := F.keep _ _ es
  refine comp1 (fun i ws N _ => N = [] ∧ IntsAre ws ((((boxesL ss).take i).map (hk (sh ss) ss.length)).map fun d : Nat => (d : Int))) F k2 n2 s2
    (fun C => Dr.pairs (IsLst.of _ _) rfl src ras.prs) (fun q hq => by
      rcases List.mem_cons.mp hq with rfl | hq
      · exact F.keep _ _ eb
      · exact F.keep _ _ (ssrc q hq)) ⟨rfl, .nil⟩ ?_ ?_
  · rintro C D i b l2 ws m N Is h3 tkj tk3 hi hbI t2 t3 ⟨hN, RW⟩ F
    replace F := F.eqB hN
    obtain ⟨p, hp⟩ : ∃ p, (boxesL ss)[i]? = some p := ⟨(boxesL ss)[i]'(by (first | lia | omega)), by simp⟩
    obtain ⟨hp1, hp2⟩ := boxes_mem (List.mem_of_getElem? hp)
    refine drP ras ssrc hbI F hp fun tr tc F => ?_
    refine wpAny_tests_nil ?_
    refine iteT rfl ?_
    obtain ⟨tsp, hsp⟩ := hsv p.1 hp1
    walk_at "gs"
    refine itL (F.keep _ _ esh) (IsLst.of _ _) (Int.natCast_nonneg _) (by have := S.R3; (first | lia | omega)) (by rw [Int.toNat_natCast]; exact hsp) ?_
    walk_at "gs"
    refine callN F Gh (gn_law_depth Gh) ki_law_depth fun Qc Kc => ?_
    walk_at "gs"
    refine CN.mk F.keep ?_
    refine Fn.iF (t_depth (B := 0) (ss := ss) (Gh.keeps F.keep) (.list (F.keep _ _ esh) (IsLst.of _ _) (by have := RA.ints (H := At h3) (B := 0) hsi; rw [List.map_map] at this; exact this)) (by have := S.R3; (first | lia | omega)) p.2 tc) F (by (first | lia | omega)) (by (first | lia | omega)) fun h4 tk4 t5 t4 F => ?_
    refine Le.go Kc ?_
    try clear Kc Qc
    try dsimp only
    rw [dep_len]
    walk_at "gs"
    have hdg := dep_ge S hp2
    have hev : ((sh ss p.1 : Nat) : Int) - (p.2 : Int) + ((dep (sh ss) ss.length p.2 : Nat) : Int) - (p.1 : Int) - 1 = ((hk (sh ss) ss.length p : Nat) : Int) := by
      unfold hk; (first | lia | omega)
    rw [hev]
    have hwl : ws.length ≤ 9 := by
      rw [RW.length, List.length_map, List.length_map, List.length_take]; (first | lia | omega)
    refine ⟨_, [], _, _, rfl, by (first | lia | omega), F, Nat.le_trans hwl (by decide), rfl, ?_⟩
    rw [List.take_add_one, hp, List.map_append, List.map_append]
    exact RW.append (.cons _ _ .nil)
  · rintro C D l2 ws m N h3 tkj tk3 t2 t3 ⟨hN, RW⟩ F₃
    replace F₃ := F₃.eqC hN
    rw [hbl, List.take_length] at RW
    refine postV F F₃ fun h4 F => ?_
    obtain ⟨vc6, dc6⟩ := c6
    replace F := F.pull 0 (q := (L + 6, o6))
    with_reducible refine' stC ?hc ?F ?hd ?_ ?hk ?hx
    case F => exact F
    case hd => exact dc6
    case hc => rfl
    case hk => rfl
    case hx => rfl
    intro h5 o6' d6' F
    replace F : Fm _ L _ _ _ := F
    refine F.settleJE tabs0 [(L + 6, o6'), (D, lisO ws m)] (by (repeat (first | exact List.Perm.refl _ | refine (perm_idx _ 0 (by rfl)).trans (List.Perm.cons _ ?_) | refine (perm_idx _ 1 (by rfl)).trans (List.Perm.cons _ ?_) | refine (perm_idx _ 2 (by rfl)).trans (List.Perm.cons _ ?_) | refine (perm_idx _ 3 (by rfl)).trans (List.Perm.cons _ ?_) | refine (perm_idx _ 4 (by rfl)).trans (List.Perm.cons _ ?_) | refine (perm_idx _ 5 (by rfl)).trans (List.Perm.cons _ ?_) | refine (perm_idx _ 6 (by rfl)).trans (List.Perm.cons _ ?_) | refine (perm_idx _ 7 (by rfl)).trans (List.Perm.cons _ ?_) | refine (perm_idx _ 8 (by rfl)).trans (List.Perm.cons _ ?_)))) fun g' kg hR F kh => ?_
    try walk_at "gK"
    exact H g' h5 tk3 D (by (first | lia | omega)) (G.keeps kg) kg ⟨ws, m, hR (D, lisO ws m) (by simp), RW⟩ ⟨o6', hR (L + 6, o6') (by simp), d6'⟩ F
end
theorem sum_cast (ks : List Nat) : (ks.map fun d : Nat => (d : Int)).sum = ((ks.sum : Nat) : Int) := by
  induction ks with
  | nil => rfl
  | cons x p ih => rw [List.map_cons, List.sum_cons, List.sum_cons, ih]; (first | lia | omega)
section
variable {w : World} {loose : List Str} {mean : ExcName → Option Value} {mg mb : Str → Option Value} {dp un : Nat} {fr : Option (List Env)} {gd : Option (List Code)} {s₀ : Shared} {L fa : Addr} {cd : Value} {Q : Flow → Shared → Prop}
theorem seg7 {g h : Heap} {l : List (Str × Value)} {ga ba la da : Addr} {ss : List Nat} {drawn : List (Nat × Nat)} {rows : List (List Nat)} {W : Ld} {tk : Nat} (hd : dp + 50 < recursionLimit) (hu : un + 500 < cLine) (G : Gd w loose mean mg mb g) (hS : Shp ss) (hg : GrdF g ga rows) (hrl : rows.length ≤ 3) (cg : Cl g (L + 5) (.ref ga))
    (hbx : BoxF g ba (boxesL ss)) (cb : Cl g (L + 2) (.ref ba)) (hdr : BoxF g da drawn) (cD : Cl g (L + 3) (.ref da)) (hd24 : drawn.length ≤ 24) (hdm : ∀ p ∈ drawn, p ∈ boxesL ss) (hlen : NatF g la ((boxesL ss).map (hk (sh ss) ss.length))) (cl : Cl g (L + 6) (.ref la))
    (hsum : (rows.map List.sum).sum = (drawn.map (hk (sh ss) ss.length)).sum) (F : Fm g L l W h)
    (H : ∀ g' h' tk', tk ≤ tk' → Gd w loose mean mg mb g' → Kp g g' →
      Fm g' L l W h' → wpAny (model MP w) (Ar dp un fr gd) (execs ((lawB w.params).drop 11) (lawE w.params L fa cd)) Q No (St s₀ h' tk')) :
    wpAny (model MP w) (Ar dp un fr gd) (execs ((lawB w.params).drop 10) (lawE w.params L fa cd)) Q No (St s₀ h tk) := by
  obtain ⟨bvs, bn, eb, rb⟩ := hbx
  have hb9 := boxes_len hS
  have hbl : bvs.length = (boxesL ss).length := by rw [rb.length, List.length_map]
  obtain ⟨dvs, dn, ed, rd⟩ := hdr
  have hdl : dvs.length = drawn.length := by rw [rd.length, List.length_map]
  obtain ⟨lvs, ln, el, li⟩ := hlen
  refine hg.lisR fun go gvs eg hlg rg => ?_
  have hgl : gvs.length = rows.length := by rw [rg.length, List.length_map]
  dsimp only [lawB, fnBody, List.drop]
  refine wpAny_execs_cons ?_
  refine wpAny_If ?_
  refine wpAny_isTrue_Compare1 ?_ (by rfl)
  refine callB F G (bn_sum G) bv_sum ?_
  refine spliced_more ?_ star_LC
  refine compE ?_ (by rfl)
  walk_at "gs"
  refine itrL (F.keep _ _ eg) hlg fun I h2 k2 n2 s2 => ?_
  have Gh := G.keeps F.keep
  refine comp1 (fun i ws N _ => N = [] ∧ IntsAre ws (((rows.take i).map List.sum).map fun d : Nat => (d : Int))) F k2 n2 s2 (fun C => Dr.list hlg rfl) (fun q hq => by rw [List.mem_singleton.mp hq]; exact F.keep _ _ eg) ⟨rfl, .nil⟩ ?_ ?_
  · rintro C D i b l2 ws m N Is h3 tkj tk3 hi hbI t2 t3 ⟨hN, RW⟩ F'
    replace F' := F'.eqB hN
    refine drV hbI F' fun v hv F' => ?_
    refine rg.atE hv fun row hrow rv => ?_
    refine RD.rowE rv fun ra ro rvs ev hm hlr hir => ?_
    replace F' := F'.val ev
    refine wpAny_tests_nil ?_
    refine iteT rfl ?_
    refine callB F' Gh (bn_sum Gh) bv_sum ?_
    walk_at "gs"
    refine r_sumL rfl F' (F'.keep _ _ (F.keep _ _ hm)) hlr hir fun t4 h4 tk4 t5 k4 F' => ?_
    rw [sum_cast]
    have hwl : ws.length ≤ 3 := by
      rw [RW.length, List.length_map, List.length_map, List.length_take]; (first | lia | omega)
    refine CE.mk (N := []) (by (first | lia | omega)) F' (Nat.le_trans hwl (by decide)) ⟨rfl, ?_⟩
    rw [List.take_add_one, hrow, List.map_append, List.map_append]
    exact RW.append (.cons _ _ .nil)
  · rintro C D l2 ws m N h3 tkj tk3 t2 t3 ⟨hN, RW⟩ F₃
    replace F₃ := F₃.eqC hN
    rw [hgl, List.take_length] at RW
    refine postV F F₃ fun h4 F => ?_
    walk_at "gs"
    refine r_sumL rfl F (F.of (q := (D, lisO ws m)) (by walk_at "mm")) (IsLst.of _ _) RW fun t5 h5 tk5 t6 k5 F => ?_
    rw [sum_cast]
    refine callB F G (bn_sum G) bv_sum ?_
    refine spliced_more ?_ star_LC
    refine compE ?_ (by rfl)
    walk_at "gs"
    refine itrL (F.keep _ _ ed) (IsLst.of _ _) fun I2 h6 k6 n6 s6 => ?_
    have G5 := G.keeps F.keep
    have cb5 := cb.keeps F.keep
    have cl5 := cl.keeps F.keep
    have kc : ∀ d ∈ (boxesL ss).map pairD, kqdOk 9 d = true := by
      intro d hd
      obtain ⟨b, _, rfl⟩ := List.mem_map.mp hd
      simp [kqdOk]
    have rb5 := rb.mono (H' := At h5) (fun a o e => F.keep _ _ e) (Nat.le_refl 0)
    have rd5 := rd.mono (H' := At h5) (fun a o e => F.keep _ _ e) (Nat.le_refl 0)
    have eb5 := F.keep _ _ eb
    have el5 := F.keep _ _ el
    refine comp1 (fun i ws N _ => N = [] ∧ IntsAre ws (((drawn.take i).map (hk (sh ss) ss.length)).map fun d : Nat => (d : Int))) F k6 n6 s6 (fun C => Dr.list (IsLst.of _ _) rfl) (fun q hq => by rw [List.mem_singleton.mp hq]; exact F.keep _ _ ed) ⟨rfl, .nil⟩ ?_ ?_
    · rintro C2 D2 i b l3 ws2 m2 N2 Is2 h7 tkj7 tk7 hi hbI t7 t8 ⟨hN, RW2⟩ F'
      replace F' := F'.eqB hN
      refine drV hbI F' fun v hv F' => ?_
      obtain ⟨p, hp⟩ : ∃ p, drawn[i]? = some p := ⟨drawn[i]'(by (first | lia | omega)), by simp⟩
      have hpm := hdm p (List.mem_of_getElem? hp)
      have hlt : (boxesL ss).idxOf p < (boxesL ss).length := List.idxOf_lt_length_iff.mpr hpm
      have rv := rd5.at hv hp
      refine wpAny_tests_nil ?_
      refine iteT rfl ?_
      walk_at "gs"
      refine MethodCall_ ?_
      walk_at "gs"
      refine getMethod_builtin (T := "list") ⟨_, F'.keep _ _ eb5, rfl⟩ PySem.F.plainAttrs_list PySem.F.slot_list_index PySem.F.type_list_index (fun a ha => by cases ha; exact ⟨_, F'.keep _ _ eb5, rfl⟩) ?_
      refine cw1 ?_
      walk_at "gs"
      refine r_index (B := 0) (B' := 0) (d := pairD p) (j := (boxesL ss).idxOf p) (F'.keep _ _ eb5) (IsLst.of _ _) (rb5.mono (fun a o e => F'.keep _ _ e) (Nat.le_refl _)) (rv.mono (fun a o e => F'.keep _ _ e) (Nat.le_refl _)) kc (by simp [kqdOk]) (by show un + 64 < cLine; (first | lia | omega)) ?_ ?_ (by (first | lia | omega)) fun t9 tk9 t10 => ?_
      · rw [List.getElem?_map, List.getElem?_eq_getElem hlt, List.getElem_idxOf hlt]; rfl
      · intro m hm e
        rw [List.getElem?_map, Option.map_eq_some_iff] at e
        obtain ⟨⟨r', c'⟩, e1, e2⟩ := e
        have e3 : (r', c') = p := by
          simp only [Dat.tuple.injEq, List.cons.injEq, Dat.int.injEq, Int.ofNat_inj, and_true] at e2
          exact Prod.ext e2.1 e2.2
        obtain ⟨hml, hme⟩ := List.getElem?_eq_some_iff.mp e1
        have := List.not_of_lt_findIdx (p := (· == p)) (xs := boxesL ss) (i := m) hm
        rw [hme, e3] at this
        simp at this
      obtain ⟨tl, hvl⟩ := ints_get li (i := (boxesL ss).idxOf p) (d := hk (sh ss) ss.length p) (by rw [List.getElem?_map, List.getElem?_eq_getElem hlt, List.getElem_idxOf hlt]; rfl)
      refine itL (F'.keep _ _ el5) (IsLst.of _ _) (Int.natCast_nonneg _) (by (first | lia | omega)) (by rw [Int.toNat_natCast]; exact hvl) ?_
      have hwl : ws2.length ≤ 24 := by
        rw [RW2.length, List.length_map, List.length_map, List.length_take]; (first | lia | omega)
      refine CE.mk (N := []) (by (first | lia | omega)) F' (Nat.le_trans hwl (by decide)) ⟨rfl, ?_⟩
      rw [List.take_add_one, hp, List.map_append, List.map_append]
      exact RW2.append (.cons _ _ .nil)
    · rintro C2 D2 l3 ws2 m2 N2 h7 tkj7 tk7 t7 t8 ⟨hN, RW2⟩ F₃
      replace F₃ := F₃.eqC hN
      rw [hdl, List.take_length] at RW2
      refine postV F F₃ fun h8 F => ?_
      walk_at "gs"
      refine r_sumL rfl F (F.of (q := (D2, lisO ws2 m2)) (by walk_at "mm")) (IsLst.of _ _) RW2 fun t9 h9 tk9 t10 k9 F => ?_
      rw [sum_cast, hsum]
      walk_at "gs"
      rw [if_neg (by simp)]
      refine wpAny_execs_nil ?_
      obtain ⟨g', kg, F, kh⟩ : ∃ g', Kp g g' ∧ Fm g' L _ W h9 ∧ Kp g' h9 := by
        refine F.settleJE W [] (by simp only [List.append_assoc, List.nil_append]; exact List.Perm.refl _) fun g' kg _ F kh => ?_
        exact ⟨g', kg, F, kh⟩
      try walk_at "gK"
      exact H g' h9 tk9 (by (first | lia | omega)) (G.keeps kg) kg F
end
noncomputable def colL (rows : List (List Nat)) (c : Nat) : List Nat := (rows.filter (fun r => decide (c < r.length))).map (fun r => r.getD c 0)
noncomputable def linesL (rows : List (List Nat)) (n : Nat) : List (List Nat) := rows ++ (List.range n).map (colL rows)
theorem rowD_ok (rows : List (List Nat)) : kqdOk 9 (.list (rows.map rowD)) = true := by
  have : ∀ d ∈ rows.map rowD, kqdOk 8 d = true := by
    intro d hd
    obtain ⟨r, _, rfl⟩ := List.mem_map.mp hd
    show (r.map fun d : Nat => Dat.int (d : Int)).all (kqdOk 7) = true
    refine List.all_eq_true.mpr fun e he => ?_
    obtain ⟨x, _, rfl⟩ := List.mem_map.mp he
    rfl
  exact List.all_eq_true.mpr this
theorem r_laddI {prog : Program} {w : World} {A : Around} {s₀ : Shared} {g h : Heap} {tk : Nat} {L : Addr} {l : List (Str × Value)} {N : Ld} {Q : Value → Shared → Prop} {a b : Addr} {vs ws : List Value} {oa ob : Obj} (F : Fm g L l N h) (ha : h.get? a = some oa) (la : IsLst oa vs) (hb : h.get? b = some ob) (lb : IsLst ob ws) (hsz : vs.length + ws.length ≤ sizeLine)
    (H : ∀ D h', Kp h h' → Fm g L l ((D, lisO (vs ++ ws) 0) :: N) h' → Q (.ref D) (St s₀ h' tk)) : wpAny (model prog w) A (binaryOp .Add (.ref a) (.ref b)) Q No (St s₀ h tk) := by
  obtain ⟨cls, dd, data, sl⟩ := oa
  obtain ⟨cls2, dd2, data2, sl2⟩ := ob
  obtain ⟨hc, n, hd⟩ := la
  obtain ⟨hc2, n2, hd2⟩ := lb
  simp only at hc hd hc2 hd2
  subst hc hd hc2 hd2
  have e : vs.toArray ++ ws.toArray = (vs ++ ws).toArray := by simp
  refine concat_meets (s := St s₀ h tk) ⟨_, ha, rfl⟩ ⟨_, hb, rfl⟩ noFill_list_add seq_list_add PySem.F.slot_list_add PySem.F.entry_list_add (PySem.F.args_list_add_2 _ _) (list_addW a b vs.toArray ws.toArray n n2 dd dd2 sl sl2 (by simpa using hsz)) ⟨ha, hb, ?_⟩
  rw [e]
  try walk_at "gK"
  exact H _ _ (kp_push _ _) (F.push (lisO (vs ++ ws) 0))
section
variable {w : World} {loose : List Str} {mean : ExcName → Option Value} {mg mb : Str → Option Value} {dp un : Nat} {fr : Option (List Env)} {gd : Option (List Code)} {s₀ : Shared} {L fa : Addr} {cd : Value} {Q : Flow → Shared → Prop}
theorem seg8 {g h : Heap} {l : List (Str × Value)} {ga sa : Addr} {ss : List Nat} {rows : List (List Nat)} {W : Ld} {tk : Nat} (hd : dp + 50 < recursionLimit) (hu : un + 500 < cLine) (G : Gd w loose mean mg mb g) (hS : Shp ss) (hsz : NatF g sa ss) (cs : Cl g (L + 1) (.ref sa)) (hg : GrdF g ga rows) (hrl : rows.length ≤ 3) (hr3 : ∀ r ∈ rows, r.length ≤ 3) (cg : Cl g (L + 5) (.ref ga))
    (hsrt : ∀ r ∈ linesL rows (sh ss 0), r.Pairwise (· ≤ ·)) (F : Fm g L l W h)
    (H : ∀ g' l' h' tk', tk ≤ tk' → Gd w loose mean mg mb g' → Kp g g' → (∀ v, lk l "numbers" = some v → lk l' "numbers" = some v) → (∀ v, lk l "spare" = some v → lk l' "spare" = some v) →
      Fm g' L l' W h' → wpAny (model MP w) (Ar dp un fr gd) (execs ((lawB w.params).drop 13) (lawE w.params L fa cd)) Q No (St s₀ h' tk')) :
    wpAny (model MP w) (Ar dp un fr gd) (execs ((lawB w.params).drop 11) (lawE w.params L fa cd)) Q No (St s₀ h tk) := by
  have S := hS.sh
  obtain ⟨svs, sn, es, hsi⟩ := hsz
  have h0 : 0 < ss.length := List.length_pos_iff.mpr hS.1
  have hs3 := S.le3 0
  obtain ⟨ts0, hs0⟩ := ints_get hsi (i := 0) (d := sh ss 0) (by simp [sh, h0])
  refine hg.lisR fun go gvs eg hlg rg => ?_
  have hgl : gvs.length = rows.length := by rw [rg.length, List.length_map]
  dsimp only [lawB, fnBody, List.drop]
  refine wpAny_execs_cons ?_
  refine wpAny_Assign_Name ?_ (by rfl)
  refine wpAny_BinOp ?_
  walk_at "gs"
  refine compE ?_ (by rfl)
  refine callT F G (bn_range G) bv_range ?_
  walk_at "gs"
  refine itL (F.keep _ _ es) (IsLst.of _ _) (by decide) (by decide) (by exact hs0) ?_
  walk_at "gs"
  refine rg1 fun r2 h2 tk2 u2 v2 t2 k2 n2 => ?_
  refine itr1 (n := sh ss 0) n2.2 (by (first | lia | omega)) (by (first | lia | omega)) (by (first | lia | omega)) fun I h3 k3 n3 s3 => ?_
  replace F := F.kp k2
  have G2 := G.keeps F.keep
  have eg2 := F.keep _ _ eg
  have cg2 := cg.keeps F.keep
  refine compGo0 (S := fun C => RgC I (C + 1) 0 1 (sh ss 0)) (cl2 := fun C => _) (ce := fun C => [(C + 1, { cls := .type "cell", data := .cell none })]) (fun i l ws N tkc => RA (In N) 0 ws (((List.range i).map (colL rows)).map rowD)) (fun C D => _) F k3 n3 (List.nodup_cons.mpr ⟨(fun h => nomatch h), List.nodup_nil⟩) (fun C => Dr.rangeC (by rfl) rfl) (fun q hq => nomatch hq)
    (fun C => ⟨_, rfl, ⟨_, rfl⟩, fun i' e => by (first | lia | omega)⟩) .nil (fun C D => .inl ⟨rfl, rfl⟩) ?_ ?_ (fun C => rfl) (fun h C hC => ⟨fun q hq => by rw [List.mem_singleton.mp hq, ← hC]; exact new_push _ _, by simp⟩)
  · rintro C D c b l2 ws m N Is h4 tkj tk4 hc rfl ⟨oc, rfl, hoc, hoc2⟩ t3 t4 RW F'
    obtain ⟨tt, hoc2⟩ := hoc2 c rfl
    refine wpAny_tests_nil ?_
    refine iteT rfl ?_
    refine emitR (L := C) (s₀ := s₀) (g := h2) ?_
    have kt : Cl h4 (C + 1) (.int (0 + (c : Int) * 1) tt) := ⟨oc, F'.of (q := (C + 1, oc)) (by walk_at "mm"), hoc2⟩
    have hcv : (0 : Int) + (c : Int) * 1 = (c : Nat) := by (first | lia | omega)
    rw [hcv] at kt
    refine compE ?_ (by rfl)
    walk_at "gs"
    refine itrL (F'.keep _ _ eg2) hlg fun I2 h5 k5 n5 s5 => ?_
    have G4 := G2.keeps F'.keep
    have kh4 := F'.keep
    refine comp1 (fun i2 ws _N _ => _N = [] ∧ IntsAre ws ((((rows.take i2).filter (fun r => decide (c < r.length))).map (fun r => r.getD c 0)).map fun d : Nat => (d : Int)) ∧ ws.length ≤ i2) F' k5 n5 s5 (fun C => Dr.list hlg rfl) (fun q hq => by rw [List.mem_singleton.mp hq]; exact F'.keep _ _ eg2) ⟨rfl, .nil, Nat.le_refl _⟩ ?_ ?_
    · rintro C2 D2 i2 b l3 ws2 m2 N2 Is2 h6 tkj6 tk6 hi2 hbI t5 t6 ⟨hN, RS, hwl⟩ F''
      replace F'' := F''.eqB hN
      refine drV hbI F'' fun v hv F'' => ?_
      refine rg.atE hv fun row hrow rv => ?_
      refine RD.rowE rv fun ra ro rvs ev hm hlr hir => ?_
      replace F'' := F''.val ev
      have hrvl : rvs.length = row.length := by rw [hir.length, List.length_map]
      have hrow3 := hr3 row (List.mem_of_getElem? hrow)
      have ct : (rows.take (i2 + 1)).filter (fun r => decide (c < r.length)) = (rows.take i2).filter (fun r => decide (c < r.length)) ++ (if c < row.length then [row] else []) := by
        rw [List.take_add_one, hrow, List.filter_append]
        by_cases h : c < row.length <;> simp [h]
      have er := F''.keep _ _ (kh4 _ _ (F.keep _ _ hm))
      refine wpAny_tests_one ?_
      walk_at "gs"
      refine callB F'' G4 (bn_len G4) bv_len ?_
      walk_at "gs"
      refine lenL er hlr (by (first | lia | omega)) fun t7 tk7 t8 => ?_
      walk_at "gs"
      refine iteP (fun hcl => ?_) fun hcl => ?_
      · skip
        have hcl : c < row.length := by have := of_decide_eq_true hcl; (first | lia | omega)
        obtain ⟨tz, hz⟩ := ints_get hir (i := c) (d := row.getD c 0) (by simp [List.getD, hcl])
        walk_at "gs"
        refine itL er hlr (Int.natCast_nonneg _) (by (first | lia | omega)) (by rw [Int.toNat_natCast]; exact hz) ?_
        refine ⟨_, [], _, _, rfl, by (first | lia | omega), F'', Nat.le_trans (show ws2.length ≤ 3 by (first | lia | omega)) (by decide), rfl, ?_, by rw [List.length_append]; simp; (first | lia | omega)⟩
        rw [ct, if_pos hcl, List.map_append, List.map_append]
        exact RS.append (.cons _ _ .nil)
      · skip
        have hcl : ¬ c < row.length := fun z => hcl (decide_eq_true (by (first | lia | omega)))
        exact ⟨_, [], _, _, rfl, by (first | lia | omega), F'', rfl, by rw [ct, if_neg hcl, List.append_nil]; exact RS, by (first | lia | omega)⟩
    · rintro C2 D2 l3 ws2 m2 N2 h6 tkj6 tk6 t5 t6 ⟨hN, RS, hwl⟩ F₃
      replace F₃ := F₃.eqC hN
      rw [hgl, List.take_length] at RS
      refine postV F' F₃ fun h7 F'' => ?_
      have hcl : ws.length = c := by rw [RW.length]; simp
      refine ER.mk (vs := ws) (m := m) (N := [(I, _), (C + 1, oc)] ++ (N ++ [(D2, lisO ws2 m2)])) (F''.perm ?_) (Nat.le_trans (show ws.length ≤ 3 by (first | lia | omega)) (by decide)) fun h8 m8 F'' => CT.mk (by (first | lia | omega)) F'' ?_
      · simp only [List.cons_append, List.append_assoc]
        exact List.Perm.refl _
      · rw [List.range_succ, List.map_append, List.map_append]
        refine (RW.mono (fun a o hm => List.mem_append.mpr (.inl hm)) (Nat.le_refl _)).snoc (.list (List.mem_append.mpr (.inr (.head _))) (IsLst.of _ _) ?_)
        have := RA.ints (H := In (N ++ [(D2, lisO ws2 m2)])) (B := 0) RS
        rw [List.map_map] at this
        exact this
  · rintro C D l2 ws m N' h4 tkj tk4 t3 t4 RW F₃
    refine postV F F₃ fun h5 F => ?_
    have hcl : ws.length = sh ss 0 := by rw [RW.length]; simp
    refine r_laddI F (F.keep _ _ eg) hlg (F.of (q := (D, lisO ws m)) (by walk_at "mm")) (IsLst.of _ _) (Nat.le_trans (show gvs.length + ws.length ≤ 6 by (first | lia | omega)) (by decide)) fun D3 h6 k6 F => ?_
    have R6 : RA (Kn g ((D3, lisO (gvs ++ ws) 0) :: (W ++ (D, lisO ws m) :: N'))) 0 (gvs ++ ws) ((linesL rows (sh ss 0)).map rowD) := by
      unfold linesL
      rw [List.map_append]
      exact (rg.mono (fun a o e => .inl e) (Nat.le_refl _)).append (RW.mono (fun a o hm => .inr (by have : (a, o) ∈ N' := hm; simp [this])) (Nat.le_refl _))
    walk_at "g"
    replace F := (‹Fm _ _ ((_, _) :: _) _ _› : Fm _ L _ _ _)
    rename_i h7 tk7 t7 F
    refine wpAny_execs_cons ?_
    refine wpAny_If ?_
    refine wpAny_isTrue_Compare1 ?_ (by rfl)
    walk_at "ge"
    refine compE ?_ (by rfl)
    walk_at "gs"
    have hll : (linesL rows (sh ss 0)).length ≤ 6 := by
      unfold linesL
      rw [List.length_append, List.length_map, List.length_range]; (first | lia | omega)
    have hvl : (gvs ++ ws).length = (linesL rows (sh ss 0)).length := by rw [R6.length, List.length_map]
    have R7 : RA (At h7) 0 (gvs ++ ws) ((linesL rows (sh ss 0)).map rowD) := R6.mono (fun a o k => F.at k) (Nat.le_refl _)
    have e7 := F.of (q := (D3, lisO (gvs ++ ws) 0)) (.head _)
    have G7 := G.keeps F.keep
    have hl3 : ∀ r ∈ linesL rows (sh ss 0), r.length ≤ 3 := by
      intro r hr
      rcases List.mem_append.mp hr with hr | hr
      · exact hr3 r hr
      · obtain ⟨c, _, rfl⟩ := List.mem_map.mp hr
        unfold colL
        rw [List.length_map]
        exact Nat.le_trans (List.length_filter_le _ _) hrl
    refine itrL e7 (IsLst.of _ _) fun I8 h8 k8 n8 s8 => ?_
    refine comp1 (fun i ws2 N _ => RA (In N) 0 ws2 (((linesL rows (sh ss 0)).take i).map rowD)) F k8 n8 s8 (fun C => Dr.list (IsLst.of _ _) rfl) (fun q hq => by rw [List.mem_singleton.mp hq]; exact e7) .nil ?_ ?_
    · rintro C2 D2 i b l3 ws2 m2 N2 Is2 h9 tkj9 tk9 hi hbI t8 t9 RW2 F'
      refine drV hbI F' fun v hv F' => ?_
      refine R7.atE hv fun row hrow rv => ?_
      refine RD.rowE rv fun ra ro rvs ev hm hlr hir => ?_
      replace F' := F'.val ev
      have hrow3 := hl3 row (List.mem_of_getElem? hrow)
      have hrowS := hsrt row (List.mem_of_getElem? hrow)
      refine wpAny_tests_nil ?_
      refine iteT rfl ?_
      refine callB F' G7 (bn_sorted G7) bv_sorted ?_
      walk_at "gs"
      refine r_sorted F' (F'.keep _ _ hm) hlr hir (by rw [hir.length, List.length_map]; (first | lia | omega)) fun D4 n4 vs4 ns4 h10 k10 hD4 hi4 hp4 hs4 F' => ?_
      have hns : ns4 = row.map fun d : Nat => (d : Int) := List.Perm.eq_of_pairwise (le := fun a b : Int => a ≤ b) (fun a b _ _ h1 h2 => Int.le_antisymm h1 h2) hs4 (List.pairwise_map.mpr (hrowS.imp fun h => Int.ofNat_le.mpr h)) hp4
      subst hns
      have hwl : ws2.length ≤ 6 := by
        rw [RW2.length, List.length_map, List.length_take]; (first | lia | omega)
      refine CE.mk (N := N2 ++ [(D4, lisO vs4 n4)]) (Nat.le_refl _) (F'.perm ?_) (Nat.le_trans hwl (by decide)) ?_
      · refine (List.Perm.swap _ _ _).trans (List.Perm.cons _ ?_)
        simp only [← List.append_assoc]
        exact (List.perm_append_singleton _ _).symm
      · rw [List.take_add_one, hrow, List.map_append]
        refine (RW2.mono (fun a o hm => List.mem_append.mpr (.inl hm)) (Nat.le_refl _)).snoc (.list (List.mem_append.mpr (.inr (.head _))) (IsLst.of _ _) ?_)
        have := RA.ints (H := In (N2 ++ [(D4, lisO vs4 n4)])) (B := 0) hi4
        rw [List.map_map] at this
        exact this
    · rintro C2 D2 l3 ws2 m2 N2 h9 tkj9 tk9 t8 t9 RW2 F₃
      rw [hvl, List.take_length] at RW2
      refine postV F F₃ fun h10 F => ?_
      walk_at "gs"
      refine ne_same (d := .list ((linesL rows (sh ss 0)).map rowD)) (B := 0) (B' := 0) (.list (F.of (q := (D3, lisO (gvs ++ ws) 0)) (by walk_at "mm")) (IsLst.of _ _) (R6.mono (fun a o k => F.at (k.imp id fun hm => List.mem_append.mpr (.inl hm))) (Nat.le_refl _)))
        (.list (F.of (q := (D2, lisO ws2 m2)) (by walk_at "mm")) (IsLst.of _ _) (RW2.mono (fun a o hm => F.of (q := (a, o)) (by have : (a, o) ∈ N2 := hm; walk_at "mm")) (Nat.le_refl _))) (rowD_ok _) (by show un + 64 < cLine; (first | lia | omega)) ?_
      walk_at "gs"
      rw [if_neg (by simp)]
      refine wpAny_execs_nil ?_
      obtain ⟨g', kg, F, kh⟩ : ∃ g', Kp g g' ∧ Fm g' L _ W h10 ∧ Kp g' h10 := by
        refine F.settleJE W [] (J := (D3, lisO (gvs ++ ws) 0) :: ((D, lisO ws m) :: N' ++ (D2, lisO ws2 m2) :: N2)) (by
          simp only [List.cons_append, List.append_assoc, List.nil_append]
          exact List.perm_middle.symm) fun g' kg _ F kh => ?_
        exact ⟨g', kg, F, kh⟩
      try walk_at "gK"
      exact H g' (("lines", .ref D3) :: l) h10 tk9 (by (first | lia | omega)) (G.keeps kg) kg (fun v hv => by show lk (("lines", _) :: l) "numbers" = some v; exact hv) (fun v hv => by show lk (("lines", _) :: l) "spare" = some v; exact hv) F
end
open Classical in
theorem eq_iffD {prog : Program} {w : World} {A : Around} {s₀ : Shared} {h : Heap} {tk : Nat} {Q : Value → Shared → Prop} {E : Value → Shared → Prop} {B B' : Nat} {u v : Value} {d e : Dat} (ra : RD (At h) B u d) (rb : RD (At h) B' v e) (ka : kqdOk 9 d = true) (kb : kqdOk 9 e = true) (hu : A.units + 64 < cLine)
    (H : ∀ b : Bool, (b = true ↔ d = e) → Q (.bool b) (St s₀ h tk)) : wpAny (model prog w) A (compareOp .Eq u v) Q E (St s₀ h tk) :=
  eq_dd (s := St s₀ h tk) ra rb ka kb hu (H _ decide_eq_true_iff)
theorem nm_pick (a1 a2 a3 : Nat) {i : Nat} (hi : i < 3) : ∃ tn : Nat, [Value.str "a" a1, .str "AA" a2, .str "aaa" a3][i]? = some (.str (nmT i) tn) ∧ (tn = a1 ∨ tn = a2 ∨ tn = a3) := by
  match i, hi with
  | 0, _ => exact ⟨a1, rfl, .inl rfl⟩
  | 1, _ => exact ⟨a2, rfl, .inr (.inl rfl)⟩
  | 2, _ => exact ⟨a3, rfl, .inr (.inr rfl)⟩
noncomputable def dueRow (s : Nat → Nat) (cnt : Nat → Nat → Nat) (r : Nat) (k : Nat) : List (Nat × Nat) := ((List.range (s r)).reverse.take k).flatMap fun c => List.replicate (cnt r c) (r, c)
noncomputable def dueL (s : Nat → Nat) (cnt : Nat → Nat → Nat) (i : Nat) : List (Nat × Nat) := (List.range i).flatMap fun r => dueRow s cnt r (s r)
section
variable {w : World} {loose : List Str} {mean : ExcName → Option Value} {mg mb : Str → Option Value} {dp un : Nat} {fr : Option (List Env)} {gd : Option (List Code)} {s₀ : Shared} {L fa : Addr} {cd : Value} {Q : Flow → Shared → Prop}
theorem seg9 {g h : Heap} {l : List (Str × Value)} {sa da : Addr} {ss : List Nat} {drawn : List (Nat × Nat)} {W : Ld} {tk : Nat} (hd : dp + 50 < recursionLimit) (hu : un + 500 < cLine) (G : Gd w loose mean mg mb g) (hS : Shp ss) (hsz : NatF g sa ss) (cs : Cl g (L + 1) (.ref sa)) (hdr : BoxF g da drawn) (cD : Cl g (L + 3) (.ref da)) (hd24 : drawn.length ≤ 24) (F : Fm g L l W h)
    (H : ∀ g' l' h' tk' ua, tk ≤ tk' → Gd w loose mean mg mb g' → Kp g g' → (∀ v, lk l "numbers" = some v → lk l' "numbers" = some v) → (∀ v, lk l "spare" = some v → lk l' "spare" = some v) → lk l' "due" = some (.ref ua) →
      (∃ vs n, g'.get? ua = some (lisO vs n) ∧ RA (At g') tk' vs ((dueL (sh ss) (fun r c => drawn.count (r, c)) ss.length).map entD)) →
      Fm g' L l' W h' → wpAny (model MP w) (Ar dp un fr gd) (execs ((lawB w.params).drop 14) (lawE w.params L fa cd)) Q No (St s₀ h' tk')) :
    wpAny (model MP w) (Ar dp un fr gd) (execs ((lawB w.params).drop 13) (lawE w.params L fa cd)) Q No (St s₀ h tk) := by
  have S := hS.sh
  have hR3 := S.R3
  obtain ⟨svs, sn, es, hi⟩ := hsz
  have hle : svs.length = ss.length := by rw [hi.length, List.length_map]
  have hsv : ∀ i, i < ss.length → ∃ t, svs[i]? = some (.int (sh ss i : Nat) t) := fun i h => ints_get hi (by simp [sh, h])
  obtain ⟨dvs, dn, ed, rd⟩ := hdr
  have hdl : dvs.length = drawn.length := by rw [rd.length, List.length_map]
  dsimp only [lawB, fnBody, List.drop]
  refine wpAny_execs_cons ?_
  refine compA ?_ (by rfl)
  refine callT F G (bn_enumerate G) bv_enumerate ?_
  walk_at "gs"
  refine r_enum (F.keep _ _ es) (IsLst.of _ _) fun E I h3 Is0 k3 n3 nd3 s3 hEI => ?_
  refine EnIt.iter s3 (fun q hq => (n3 q hq).2) ?_
  have Gh := G.keeps F.keep
  have ed0 := F.keep _ _ ed
  have cD0 := cD.keeps F.keep
  have rd0 := rd.mono (H' := At h) (fun a o e => F.keep _ _ e) (Nat.le_refl 0)
  refine compGo0 (S := fun _ => EnIt E I sa) (cl2 := fun _ => _) (ce := fun _ => []) (fun i l ws N tkc => RA (In N) tkc ws ((dueL (sh ss) (fun r c => drawn.count (r, c)) i).map entD) ∧ ws.length ≤ 100 * i) (fun C D => _) F k3 n3 nd3 (fun C => Dr.enum (IsLst.of _ _) hEI rfl) (fun q hq => by rw [List.mem_singleton.mp hq]; exact F.keep _ _ es)
    (fun _ => by rw [List.append_nil]; exact s3) ⟨.nil, Nat.le_refl _⟩ (fun C D => .inr ⟨_, _, _, rfl, rfl⟩) ?_ ?_ (fun C => rfl) (fun h C _ => ⟨(fun _ hq => nomatch hq), List.nodup_nil⟩)
  · rintro C D i b l0 ws m N Is h4 tkj tk4 hi4 ⟨tb, v, hv, rfl⟩ hS4 t3 t4 ⟨RW, hwl⟩ F
    obtain ⟨tsi, hsi⟩ := hsv i (by (first | lia | omega))
    rw [hv] at hsi
    obtain rfl := Option.some.inj hsi
    have h3 := S.le3 i
    refine wpAny_tests_nil ?_
    refine iteT rfl ?_
    refine nestR ?_
    refine callT F Gh (bn_range Gh) bv_range ?_
    walk_at "gs"
    refine rg3 (by (first | lia | omega)) fun r h5 k5 n5 => ?_
    refine itrD (n := sh ss i) n5.2 rfl (by (first | lia | omega)) fun I6 h6 k6 n6 s6 => ?_
    replace F := (F.kp k5).its k6 n6
    refine compS (s₀ := s₀) rfl (Dr.range rfl) s6 F ?_
    replace F := F.perm (List.Perm.swap _ _ _)
    refine compL (nx := _) (Is := [(I6, _)]) (N := Is ++ N) (fun j l vs N' tkc => (∃ t, lk l "row" = some (.int (i : Nat) t)) ∧ ∃ NT, N' = Is ++ NT ∧ RA (In NT) tkc vs ((dueL (sh ss) (fun r c => drawn.count (r, c)) i ++ dueRow (sh ss) (fun r c => drawn.count (r, c)) i j).map entD) ∧ vs.length ≤ 100 * i + 30 * j)
      rfl (.inr ⟨_, _, _, rfl, rfl⟩) (Dr.range rfl) (fun _ hq => nomatch hq) F s6 ⟨⟨tb, rfl⟩, N, rfl, by simpa [dueRow] using RW.mono (fun _ _ h => h) (by (first | lia | omega)), by (first | lia | omega)⟩ ?_ ?_
    · rintro j b l1 vs m N2 Is2 h7 tkj7 tk7 hj ⟨te, rfl⟩ hS2 t6 t7 ⟨⟨tr, e1⟩, NT, rfl, RJ, hvl⟩ F
      obtain ⟨c, hcj⟩ : ∃ c, sh ss i = c + 1 + j := ⟨sh ss i - 1 - j, by (first | lia | omega)⟩
      have hev : ((sh ss i : Nat) : Int) - 1 + (j : Int) * -1 = (c : Nat) := by (first | lia | omega)
      rw [hev] at F
      refine wpAny_tests_nil ?_
      refine iteT rfl ?_
      refine nestR ?_
      walk_at "gs"
      refine itrL (F.keep _ _ ed0) (IsLst.of _ _) fun I8 h8 k8 n8 s8 => ?_
      replace F := F.its k8 n8
      refine compS (s₀ := s₀) rfl (Dr.list (lo := lisO dvs dn) (items := dvs) (IsLst.of _ _) rfl) s8 F ?_
      replace F := F.perm (List.Perm.swap _ _ _)
      refine compL (nx := _) (Is := [(I8, _)]) (N := Is2 ++ (Is ++ NT)) (src := [(da, lisO dvs dn)]) (fun q l vs N' tkc => (∃ t, lk l "row" = some (.int (i : Nat) t)) ∧ (∃ t, lk l "column" = some (.int (c : Nat) t)) ∧ ∃ NU, N' = Is2 ++ (Is ++ NU) ∧ RA (In NU) tkc vs ((dueL (sh ss) (fun r c => drawn.count (r, c)) i ++ dueRow (sh ss) (fun r c => drawn.count (r, c)) i j ++ List.replicate ((drawn.take q).count (i, c)) (i, c)).map entD) ∧ vs.length ≤ 100 * i + 30 * j + q)
        rfl (.inl ⟨rfl, rfl⟩) (Dr.list (lo := lisO dvs dn) (items := dvs) (IsLst.of _ _) rfl) (fun q hq => by rw [List.mem_singleton.mp hq]; exact ed0) F s8 ⟨⟨tr, e1⟩, ⟨te, rfl⟩, NT, rfl, by simpa using RJ.mono (fun _ _ h => h) (by (first | lia | omega)), by (first | lia | omega)⟩ ?_ ?_
      · rintro q b l2 vs m N3 Is3 h9 tkj9 tk9 hq ⟨v, hv, rfl⟩ hS3 t8 t9 ⟨⟨tr, e1⟩, ⟨te, e2⟩, NU, rfl, RU, hul⟩ F
        obtain ⟨p, hp⟩ : ∃ p, drawn[q]? = some p := ⟨drawn[q]'(by (first | lia | omega)), by simp⟩
        have rv := rd0.at hv hp
        refine wpAny_tests_one ?_
        refine midF F (R := fun b => b = true ↔ p = (i, c)) ?_ ?_
        · cases rv with
          | tuple hm ra2 =>
          rename_i av avs an
          have RV : RD (At h9) 0 (.ref av) (pairD p) := .tuple (F.keep _ _ hm) (ra2.mono (fun a o e => F.keep _ _ e) (Nat.le_refl _))
          walk_at "gs"
          refine mkT F (by show 2 ≤ sizeLine; decide) fun ta h10 _ k10 F => ?_
          refine eq_iffD (d := pairD p) (e := pairD (i, c)) (B := 0) (B' := 0) (RV.mono (fun a o e => k10 _ _ e) (Nat.le_refl _)) (.tuple (F.of (.head _)) (.cons (.int _ _) (.cons (.int _ _) .nil))) (by simp [kqdOk]) (by simp [kqdOk]) (by show un + 64 < cLine; (first | lia | omega)) fun bt hbt => ?_
          walk_at "gs"
          refine MidF.mk (by (first | lia | omega)) (F.sub (List.sublist_cons_self _ _)) (hbt.trans ?_)
          constructor
          · intro h
            simp only [Dat.tuple.injEq, List.cons.injEq, Dat.int.injEq, Int.ofNat_inj, and_true] at h
            exact Prod.ext h.1 h.2
          · rintro rfl; rfl
        rintro bt h10 tk10 t10 F hbt
        have ct : (drawn.take (q + 1)).count (i, c) = (drawn.take q).count (i, c) + (if p = (i, c) then 1 else 0) := by
          rw [List.take_add_one, hp, List.count_append]
          by_cases h : p = (i, c) <;> simp [h]
        cases bt with
        | false =>
          refine iteF Bool.false_ne_true ?_
          have hne : ¬ p = (i, c) := fun z => Bool.false_ne_true (hbt.mpr z)
          exact CT.mk (vs := vs) (N := Is2 ++ (Is ++ NU)) t10 F ⟨⟨tr, e1⟩, ⟨te, e2⟩, NU, rfl, by rw [ct, if_neg hne, Nat.add_zero]; exact RU.mono (fun _ _ h => h) (by (first | lia | omega)), by (first | lia | omega)⟩
        | true =>
          refine iteT rfl ?_
          have heq : p = (i, c) := hbt.mp rfl
          refine emitR (L := C) (s₀ := s₀) (g := h) ?_
          refine Tuple_ ?_
          refine spliced_more ?_ (by rfl)
          refine Subscript_ ?_
          refine List_ ?_
          refine spliced_more ?_ (by rfl)
          refine cstr fun ta1 tka1 q1 q1' => ?_
          refine spliced_more ?_ (by rfl)
          refine cstr fun ta2 tka2 q2 q2' => ?_
          refine spliced_more ?_ (by rfl)
          refine cstr fun ta3 tka3 q3 q3' => ?_
          refine spliced_none ?_
          refine mkL F (by show 3 ≤ sizeLine; decide) fun lx2 h11 _ _ F => ?_
          walk_at "gs"
          have hi3 : i < 3 := by (first | lia | omega)
          have hc3 : c < 3 := by (first | lia | omega)
          obtain ⟨tn, hn1, hn23⟩ := nm_pick ta1 ta2 ta3 hi3
          have hn2 : 0 < tn := by (first | lia | omega)
          have hn3 : tn ≤ tka3 := by (first | lia | omega)
          refine itL (F.of (.head _)) (IsLst.of _ _) (Int.natCast_nonneg _) (by (first | lia | omega)) (by rw [Int.toNat_natCast]; exact hn1) ?_
          refine spliced_more ?_ (by rfl)
          refine wpAny_BinOp ?_
          refine cstr fun tx1 tkx1 q4 q4' => ?_
          walk_at "gs"
          rename_i _ _ hx1 _ tkx3 hx2
          rw [show ((c : Int) + 1) = ((c + 1 : Nat) : Int) from rfl]
          refine r_smul (n := c + 1) (by (first | lia | omega)) (by show 1 * (c + 1) ≤ 1000; (first | lia | omega)) (by decide) (Nat.le_trans q4' (by (first | lia | omega))) rp_one.2.2.1 fun tx tk12 t12 q5 q6 => ?_
          walk_at "gs"
          replace F := F.sub (List.sublist_cons_self _ _)
          refine mkT F (by show 2 ≤ sizeLine; decide) fun tp h13 _ _ F => ?_
          refine ER.mk (vs := vs) (m := m) (N := Is3 ++ (Is2 ++ (Is ++ (NU ++ [(tp, tupO [.str (nmT i) tn, .str (rp "x" (c + 1)) tx] 0)])))) (F.perm ?_) (Nat.le_trans (show vs.length ≤ 1000 by (first | lia | omega)) (by decide)) fun h14 m14 F => CT.mk (by (first | lia | omega)) F ⟨⟨tr, e1⟩, ⟨te, e2⟩, _, rfl, ?_, by rw [List.length_append]; simp; (first | lia | omega)⟩
          · refine (List.Perm.swap _ _ _).trans (List.Perm.cons _ ?_)
            simp only [← List.append_assoc]
            exact (List.perm_append_singleton _ _).symm
          · rw [ct, if_pos heq, ← List.replicate_append_replicate, ← List.append_assoc, List.map_append (f := entD)]
            exact (RU.mono (fun a o hm => List.mem_append.mpr (.inl hm)) (by (first | lia | omega))).append (.cons (.tuple (List.mem_append.mpr (.inr (.head _))) (.cons (.str _ _ (Nat.ne_of_gt hn2) (Nat.le_trans hn3 (by (first | lia | omega)))) (.cons (.str _ _ (Nat.ne_of_gt (Nat.lt_of_lt_of_le (Nat.lt_of_le_of_lt (Nat.zero_le _) q4) q5)) q6) .nil))) .nil)
      · rintro l2 vs m N3 h9 tkj9 tk9 t8 t9 ⟨⟨tr, e1⟩, ⟨te, e2⟩, NU, rfl, RU, hul⟩ F
        rw [hdl, List.take_length] at RU
        refine CT.mk (vs := vs) (N := Is ++ NU) (by (first | lia | omega)) F ⟨⟨tr, e1⟩, NU, rfl, ?_, by (first | lia | omega)⟩
        have e3 : dueRow (sh ss) (fun r c => drawn.count (r, c)) i (j + 1) = dueRow (sh ss) (fun r c => drawn.count (r, c)) i j ++ List.replicate (drawn.count (i, c)) (i, c) := by
          unfold dueRow
          have : (List.range (sh ss i)).reverse[j]? = some c := by
            rw [List.getElem?_reverse (by rw [List.length_range]; (first | lia | omega)), List.length_range, List.getElem?_range (by (first | lia | omega))]
            congr 1; (first | lia | omega)
          rw [List.take_add_one, this, List.flatMap_append]; simp
        rw [e3, ← List.append_assoc]
        exact RU.mono (fun _ _ h => h) (by (first | lia | omega))
    · rintro l1 vs m N2 h7 tkj7 tk7 t6 t7 ⟨⟨tr, e1⟩, NT, rfl, RJ, hvl⟩ F
      refine CT.mk (vs := vs) (N := NT) (by (first | lia | omega)) F ⟨?_, by (first | lia | omega)⟩
      have e3 : dueL (sh ss) (fun r c => drawn.count (r, c)) (i + 1) = dueL (sh ss) (fun r c => drawn.count (r, c)) i ++ dueRow (sh ss) (fun r c => drawn.count (r, c)) i (sh ss i) := by
        unfold dueL
        rw [List.range_succ, List.flatMap_append]; simp
      rw [e3]
      exact RJ.mono (fun _ _ h => h) (by (first | lia | omega))
  · rintro C D l2 ws m N' h4 tkj tk4 t3 t4 ⟨RW, hwl⟩ F₃
    rw [hle] at RW
    refine postA F F₃ fun h5 tk5 t5 F => ?_
    refine F.settleE W ((D, lisO ws m) :: N') (List.Perm.refl _) fun g' kg hR F kh => ?_
    try walk_at "gK"
    exact H g' (("due", .ref D) :: l) h5 tk5 D (by (first | lia | omega)) (G.keeps kg) kg (fun v hv => by show lk (("due", _) :: l) "numbers" = some v; exact hv) (fun v hv => by show lk (("due", _) :: l) "spare" = some v; exact hv) rfl ⟨ws, m, hR (D, lisO ws m) (by simp), RW.mono (fun a o hm => hR (a, o) (by have : (a, o) ∈ N' := hm; simp [this])) (by (first | lia | omega))⟩ F
end
theorem Fm.absorb {g h h3 : Heap} {L : Addr} {l : List (Str × Value)} {W : Ld} (F : Fm g L l W h) (k : Kp h h3) : ∃ g', Kp g g' ∧ Fm g' L l W h3 ∧ Kp g' h3 ∧ ∀ a o, New h h3 a o → g'.get? a = some o := by
  have F3 := F.kp k
  refine ⟨_, F3.rkp W (List.Sublist.refl _), F3.rebase W (List.Sublist.refl _), (F3.rebase W (List.Sublist.refl _)).keep, fun a o n => hideAll_get _ n.2 fun hm => ?_⟩
  rcases List.mem_cons.mp hm with e | hm
  · exact F.Lne n.1 e
  · obtain ⟨q, hq, e⟩ := List.mem_map.mp hm
    have := F.of hq
    rw [e, n.1] at this; cases this
theorem Fm.absorbE {g h h3 : Heap} {L : Addr} {l : List (Str × Value)} {W : Ld} {G : Prop} (F : Fm g L l W h) (k : Kp h h3) (K : ∀ g', Kp g g' → Fm g' L l W h3 → Kp g' h3 → (∀ a o, New h h3 a o → g'.get? a = some o) → G) : G :=
  let ⟨g', a, b, c, d⟩ := F.absorb k
  K g' a b c d
theorem entD_ok {ops : List (Nat × Nat)} (h3 : ∀ p ∈ ops, p.1 < 3 ∧ p.2 < 3) : kqdOk 9 (.list (ops.map entD)) = true := by
  have n3 : ∀ k : Fin 3, PyData.strOk (nmT k.val) = true := by decide +kernel
  have x3 : ∀ k : Fin 3, PyData.strOk (rp "x" (k.val + 1)) = true := by decide +kernel
  have : ∀ d ∈ ops.map entD, kqdOk 8 d = true := by
    intro d hd
    obtain ⟨p, hp, rfl⟩ := List.mem_map.mp hd
    have := h3 p hp
    have a1 := n3 ⟨p.1, this.1⟩
    have a2 := x3 ⟨p.2, this.2⟩
    simp only [kqdOk, List.all_cons, List.all_nil, Bool.and_true, Bool.and_eq_true]
    exact ⟨a1, a2⟩
  exact List.all_eq_true.mpr this
section
variable {w : World} {loose : List Str} {mean : ExcName → Option Value} {mg mb : Str → Option Value} {dp un : Nat} {fr : Option (List Env)} {gd : Option (List Code)} {s₀ : Shared} {L fa : Addr} {cd : Value} {Q : Flow → Shared → Prop}
theorem seg10 {g h : Heap} {l : List (Str × Value)} {sa ga ua : Addr} {ss : List Nat} {ops : List (Nat × Nat)} {gf gz : Grd} {un0 B : Nat} {uvs : List Value} {W : Ld} {tk : Nat} (hd : dp + 50 < recursionLimit) (hu : un + 500 < cLine) (G : Gd w loose mean mg mb g) (hS : Shp ss) (hsz : NatF g sa ss) (cs : Cl g (L + 1) (.ref sa)) (hg : GrdF g ga (rowsOf (sh ss) ss.length gf)) (cg : Cl g (L + 5) (.ref ga))
    (T : Takes (sh ss) ss.length 0 gf ops gz) (ho : ops.length ≤ 100) (ho3 : ∀ p ∈ ops, p.1 < 3 ∧ p.2 < 3) (eu : g.get? ua = some (lisO uvs un0)) (ru : RA (At g) B uvs (ops.map entD)) (lu : lk l "due" = some (.ref ua)) (F : Fm g L l W h)
    (H : ∀ g' l' h' tk', tk ≤ tk' → Gd w loose mean mg mb g' → Kp g g' → (∀ v, lk l "numbers" = some v → lk l' "numbers" = some v) → (∀ v, lk l "spare" = some v → lk l' "spare" = some v) →
      Fm g' L l' W h' → wpAny (model MP w) (Ar dp un fr gd) (execs ((lawB w.params).drop 18) (lawE w.params L fa cd)) Q No (St s₀ h' tk')) :
    wpAny (model MP w) (Ar dp un fr gd) (execs ((lawB w.params).drop 14) (lawE w.params L fa cd)) Q No (St s₀ h tk) := by
  obtain ⟨svs, sn, es, hi⟩ := hsz
  dsimp only [lawB, fnBody, List.drop]
  refine wpAny_execs_cons ?_
  refine wpAny_Assign_Name ?_ (by rfl)
  refine callN F G (gn_law_take G) ki_law_take fun Qc Kc => ?_
  walk_at "gs"
  refine CN.mk F.keep ?_
  refine t_take (B := 0) (G.keeps F.keep) (F.keep _ _ es) (IsLst.of _ _) hi hS (hg.keeps F.keep) (by (first | lia | omega)) T dp un fr gd _ _ (by (first | lia | omega)) (by (first | lia | omega)) ?_
  rintro r h2 tk2 t2 kx ⟨x, dx, lx, n, vs, rfl, nx, ⟨hsh, kd, nd⟩, nl, RB⟩
  refine Le.go Kc ?_
  try clear Kc Qc
  try dsimp only
  refine F.absorbE (kpx kx) fun g2 kg2 F kh2 hN => ?_
  have G2 := G.keeps kg2
  have Hh : Hd g2 x dx lx := ⟨hN _ _ nx, hsh, kd, hN _ _ nd⟩
  have el2 := hN _ _ nl
  have RB2 : RA (At g2) tk2 vs (ops.map entD) := RB.mono (fun a o n => hN a o n) (Nat.le_refl _)
  have hvl : vs.length = ops.length := by rw [RB.length, List.length_map]
  have eu2 := kg2 _ _ eu
  have ru2 := ru.mono (H' := At g2) (fun a o e => kg2 _ _ e) (Nat.le_refl B)
  walk_at "g"
  rename_i h3 tk3 t3 F
  refine wpAny_execs_cons ?_
  refine wpAny_Assign_Name ?_ (by rfl)
  refine MethodCall_ ?_
  walk_at "gs"
  refine r_mthH G2 F.keep (Hh.keeps F.keep) (f := 244) (by kernel_rfl) (by kernel_rfl) (hd_sh lx _ (by decide)) ?_
  refine callWith_K0 (s := St s₀ h3 _) (G2.K.keeps F.keep) ki_items ?_
  refine t_items x dx lx (G2.keeps F.keep) (Hh.keeps F.keep) (F.keep _ _ el2) (IsLst.of _ _) (by (first | lia | omega)) dp un fr gd _ _ (by (first | lia | omega)) (by (first | lia | omega)) ?_
  rintro r h4 tk4 t4 kx4 ⟨ta, rfl, nta⟩
  replace F := F.new (kpx kx4) nta.1 nta.2
  walk_at "g"
  replace F := (‹Fm _ _ (("told", _) :: _) _ _› : Fm _ L _ _ _)
  refine wpAny_execs_cons ?_
  refine wpAny_Expr_any ?_
  refine MethodCall_ ?_
  walk_at "gs"
  refine mth_reverse (F.of (q := (ta, lisO vs 0)) (.head _)) ?_
  refine r_reverse F (Nat.le_trans (show vs.length ≤ 100 by (first | lia | omega)) (by decide)) fun h5 n5 F => ?_
  refine wpAny_execs_cons ?_
  refine wpAny_If ?_
  refine wpAny_isTrue_BoolOp ?_
  refine wpAny_allTrue_Or_cons ?_
  refine wpAny_isTrue_Compare1 ?_ (by rfl)
  refine slcV (s₀ := s₀) ?_
  walk_at "gs"
  refine evN ?_
  refine evN ?_
  refine evS ?_
  walk_at "gs"
  refine SV.mk (vs := vs.reverse) (lo := none) (hi := none) (k := some (-1)) F (F.of (q := (ta, lisO vs.reverse n5)) (by walk_at "mm")) (IsLst.of _ _) ?_ .none .none (.int _ _) (by simp) fun D3 h7 F => ?_
  · rw [List.length_reverse]; exact Nat.le_trans (show vs.length ≤ 100 by (first | lia | omega)) (by decide)
  rw [krv_pick] at F
  rw [show (vs.reverse.toArray.toList.reverse.toArray).toList = vs by simp] at F
  refine nm F ?_ lu
  refine ne_same (d := .list (ops.map entD)) (B := tk2) (B' := B) (.list (F.of (q := (D3, lisO vs 0)) (.head _)) (IsLst.of _ _) (RB2.mono (fun a o e => F.keep _ _ e) (Nat.le_refl _))) (.list (F.keep _ _ eu2) (IsLst.of _ _) (ru2.mono (fun a o e => F.keep _ _ e) (Nat.le_refl _))) (entD_ok ho3) (by show un + 64 < cLine; (first | lia | omega)) ?_
  refine wpAny_truthy_bool ?_
  refine iteF Bool.false_ne_true ?_
  refine wpAny_allTrue_Or_cons ?_
  refine wpAny_isTrue_Compare1 ?_ (by rfl)
  refine MethodCall_ ?_
  walk_at "gs"
  refine r_mthH G2 F.keep (Hh.keeps F.keep) (f := 244) (by kernel_rfl) (by kernel_rfl) (hd_sh lx _ (by decide)) ?_
  refine callWith_K0 (s := St s₀ h7 _) (G2.K.keeps F.keep) ki_items ?_
  refine t_items x dx lx (G2.keeps F.keep) (Hh.keeps F.keep) (F.keep _ _ el2) (IsLst.of _ _) (by (first | lia | omega)) dp un fr gd _ _ (by (first | lia | omega)) (by (first | lia | omega)) ?_
  rintro r h8 tk8 t8 kx8 ⟨tb, rfl, ntb⟩
  replace F := F.new (kpx kx8) ntb.1 ntb.2
  refine nm F ?_ lu
  refine ne_same (d := .list (ops.map entD)) (B := tk2) (B' := B) (.list (F.of (q := (tb, lisO vs 0)) (.head _)) (IsLst.of _ _) (RB2.mono (fun a o e => F.keep _ _ e) (Nat.le_refl _))) (.list (F.keep _ _ eu2) (IsLst.of _ _) (ru2.mono (fun a o e => F.keep _ _ e) (Nat.le_refl _))) (entD_ok ho3) (by show un + 64 < cLine; (first | lia | omega)) ?_
  refine wpAny_truthy_bool ?_
  refine iteF Bool.false_ne_true ?_
  refine wpAny_allTrue_Or_nil ?_
  refine iteF Bool.false_ne_true ?_
  refine wpAny_execs_nil ?_
  obtain ⟨g', kg, F, kh⟩ : ∃ g', Kp g2 g' ∧ Fm g' L _ W h8 ∧ Kp g' h8 := by
    refine F.settleJE W [] (J := [(tb, lisO vs 0), (D3, lisO vs 0), (ta, lisO vs.reverse n5)]) (by
      simp only [List.nil_append]
      exact (List.perm_append_comm (l₁ := [(tb, lisO vs 0), (D3, lisO vs 0), (ta, lisO vs.reverse n5)]) (l₂ := W))) fun g' kg _ F kh => ?_
    exact ⟨g', kg, F, kh⟩
  try walk_at "gK"
  exact H g' (("told", .ref ta) :: ("taken", .ref x) :: l) h8 tk8 (by (first | lia | omega)) (G2.keeps kg) (fun b o e => kg _ _ (kg2 _ _ e)) (fun v hv => by show lk (("told", _) :: ("taken", _) :: l) "numbers" = some v; exact hv) (fun v hv => by show lk (("told", _) :: ("taken", _) :: l) "spare" = some v; exact hv) F
end
theorem gD_ok (rows : List (List Nat)) : kqdOk 9 (gD rows) = true := by
  have : ∀ d ∈ rows.map (fun r => Dat.list (r.map fun d : Nat => .int (d : Int))), kqdOk 8 d = true := by
    intro d hd
    obtain ⟨r, _, rfl⟩ := List.mem_map.mp hd
    show (r.map fun d : Nat => Dat.int (d : Int)).all (kqdOk 7) = true
    refine List.all_eq_true.mpr fun e he => ?_
    obtain ⟨x, _, rfl⟩ := List.mem_map.mp he
    rfl
  exact List.all_eq_true.mpr this
theorem nmT_map {ops : List (Nat × Nat)} (h3 : ∀ p ∈ ops, p.1 < 3 ∧ p.2 < 3) : (ops.map (fun p => (nmT p.1, rp "x" (p.2 + 1)))).map (fun e => (Txt.lower e.1, e.2)) = ops.map (fun p => (rp "a" (p.1 + 1), rp "x" (p.2 + 1))) := by
  rw [List.map_map]
  refine List.map_congr_left fun p hp => ?_
  show (Txt.lower (nmT p.1), _) = _
  rw [(nmT_ok p.1 (h3 p hp).1).2.1]
section
variable {w : World} {loose : List Str} {mean : ExcName → Option Value} {mg mb : Str → Option Value} {dp un : Nat} {fr : Option (List Env)} {gd : Option (List Code)} {s₀ : Shared} {L fa : Addr} {cd : Value} {Q : Flow → Shared → Prop}
theorem seg11 {g h : Heap} {l : List (Str × Value)} {sa nx : Addr} {ss : List Nat} {ns : List Int} {W : Ld} {tk : Nat} (hd : dp + 50 < recursionLimit) (hu : un + 500 < cLine) (G : Gd w loose mean mg mb g) (hS : Shp ss) (hsz : NatF g sa ss) (cs : Cl g (L + 1) (.ref sa)) (hn : NumF g nx ns) (hnl : ns.length ≤ 60) (l1 : lk l "numbers" = some (.ref nx)) (F : Fm g L l W h)
    (H : ∀ g' l' h' tk', tk ≤ tk' → Gd w loose mean mg mb g' → Kp g g' → (∀ v, lk l "numbers" = some v → lk l' "numbers" = some v) → (∀ v, lk l "spare" = some v → lk l' "spare" = some v) →
      Fm g' L l' W h' → wpAny (model MP w) (Ar dp un fr gd) (execs ((lawB w.params).drop 20) (lawE w.params L fa cd)) Q No (St s₀ h' tk')) :
    wpAny (model MP w) (Ar dp un fr gd) (execs ((lawB w.params).drop 18) (lawE w.params L fa cd)) Q No (St s₀ h tk) := by
  have S := hS.sh
  obtain ⟨svs, sn, es, hi⟩ := hsz
  obtain ⟨nvs, nn, en, hin⟩ := hn
  have hnv : nvs.length = ns.length := hin.length
  dsimp only [lawB, fnBody, List.drop]
  refine wpAny_execs_cons ?_
  refine wpAny_Assign_Name ?_ (by rfl)
  refine callN F G (gn_law_second G) ki_law_second fun Qc Kc => ?_
  refine spliced_more ?_ (by rfl)
  walk_at "ge"
  refine spliced_more ?_ (by rfl)
  refine wpAny_BinOp ?_
  refine nm F ?_ l1
  refine List_ ?_
  refine spliced_more ?_ (by rfl)
  refine ci fun t1 tk1 q1 => ?_
  refine spliced_more ?_ (by rfl)
  refine ci fun t2 tk2 q2 => ?_
  refine spliced_more ?_ (by rfl)
  refine ci fun t3 tk3 q3 => ?_
  refine spliced_none ?_
  refine mkL F (by show 3 ≤ sizeLine; decide) fun lx h3 _ _ F => ?_
  refine r_ladd F (F.keep _ _ en) (F.of (.head _)) (Nat.le_trans (show nvs.length + 3 ≤ 63 by (first | lia | omega)) (by decide)) fun lz h4 k4 F => ?_
  have hi63 := hin.append (.cons 1 t1 (.cons 5 t2 (.cons 2 t3 .nil)))
  have hlz : (nvs ++ [Value.int 1 t1, .int 5 t2, .int 2 t3]).length ≤ 1000 := by rw [List.length_append]; simp; (first | lia | omega)
  walk_at "gs"
  refine CN.mk F.keep ?_
  refine t_second (G.keeps F.keep) (F.keep _ _ es) (IsLst.of _ _) hi hS (F.of (.head _)) (IsLst.of _ _) hi63 hlz (by simp) dp un fr gd _ _ (by (first | lia | omega)) (by (first | lia | omega)) ?_
  rintro r h5 tk5 t5 kx5 ⟨qa, rows, rfl, RQ, hrl, hM, hBd⟩
  refine Le.go Kc ?_
  try clear Kc Qc
  try dsimp only
  refine F.absorbE (kpx kx5) fun g5 kg5 F kh5 hN5 => ?_
  have G5 := G.keeps kg5
  have RQ5 : GrdF g5 qa rows := RQ.mono (fun a o n => hN5 a o n) (Nat.le_refl _)
  have es5 := kg5 _ _ es
  have cs5 := cs.keeps kg5
  have hrows := grdOf_rows hrl
  obtain ⟨ops, T, hv, P⟩ := pureB S (grdOf_mono hS hrl hM) (grdOf_out hS hrl)
  have hR3 := S.R3
  have hv3 : ∀ p ∈ ops, p.1 < 3 ∧ p.2 < 3 := fun p hp => by
    have := hv p hp
    have := S.le3 p.1
    (first | lia | omega)
  have hol : ops.length ≤ 100 := by
    have h1 := takes_len S T fun a b hb => grdOf_le hS hrl hBd a b hb
    have h0 : 0 < ss.length := List.length_pos_iff.mpr hS.1
    rw [if_pos h0] at h1
    have h2 := grdOf_le hS hrl hBd 0 (sh ss 0 - 1) (by have := S.hp 0 h0; (first | lia | omega))
    have : (ss.length - 0 - 1) * 18 ≤ 2 * 18 := Nat.mul_le_mul_right _ (by (first | lia | omega))
    (first | lia | omega)
  walk_at "g"
  replace F := (‹Fm _ _ (("second", _) :: _) _ _› : Fm _ L _ _ _)
  refine wpAny_execs_cons ?_
  refine wpAny_If ?_
  refine wpAny_isTrue_Compare1 ?_ (by rfl)
  refine callN F G5 (gn_law_put G5) ki_law_put fun Qc Kc => ?_
  refine spliced_more ?_ (by rfl)
  walk_at "ge"
  refine spliced_more ?_ (by rfl)
  refine callN F G5 (gn_law_take G5) ki_law_take fun Qc Kc => ?_
  walk_at "gs"
  refine CN.mk F.keep ?_
  refine t_take (B := 0) (g := grdOf rows) (G5.keeps F.keep) (F.keep _ _ es5) (IsLst.of _ _) hi hS (by rw [hrows]; exact RQ5.keeps F.keep) (by (first | lia | omega)) T dp un fr gd _ _ (by (first | lia | omega)) (by (first | lia | omega)) ?_
  rintro r h6 tk6 t6 kx6 ⟨x, dx, lx6, n6, vs6, rfl, nx6, ⟨hsh, kd, nd⟩, nl, RB⟩
  refine Le.go Kc ?_
  try clear Kc Qc
  try dsimp only
  refine F.absorbE (kpx kx6) fun g6 kg6 F kh6 hN6 => ?_
  have G6 := G5.keeps kg6
  have RQ6 := RQ5.keeps kg6
  have es6 := kg6 _ _ es5
  have hBag : Bag g6 tk6 x lx6 ops := ⟨dx, n6, vs6, ops.map (fun p => (nmT p.1, rp "x" (p.2 + 1))), ⟨hN6 _ _ nx6, hsh, kd, hN6 _ _ nd⟩, hN6 _ _ nl, by
    rw [List.map_map]
    exact RB.mono (fun a o n => hN6 a o n) (Nat.le_refl _), nmT_map hv3, hv3⟩
  walk_at "gs"
  refine ⟨_, _, rfl, ?_, ?_⟩
  · exact fun b o e => kh6 _ _ (kg6 _ _ e)
  refine t_put (G6.keeps F.keep) (F.keep _ _ es6) (IsLst.of _ _) hi hS (hBag.keeps F.keep (Nat.le_refl _)) (Nat.le_refl _) (by (first | lia | omega)) P dp un fr gd _ _ (by (first | lia | omega)) (by (first | lia | omega)) ?_
  rintro r h7 tk7 t7 kx7 ⟨pa, rfl, RP⟩
  refine F.absorbE (kpx kx7) fun g7 kg7 F kh7 hN7 => ?_
  have RQ7 := RQ6.keeps kg7
  walk_at "gs"
  refine ne_same (d := gD rows) (B := 0) (B' := 0) (by
    rw [hrows] at RP
    exact RP.mono (fun a o n => n.2) (Nat.le_refl _)) (RQ7.keeps F.keep) (gD_ok _) (by show un + 64 < cLine; (first | lia | omega)) ?_
  walk_at "gs"
  rw [if_neg (by simp)]
  refine wpAny_execs_nil ?_
  obtain ⟨g', kg, F, kh⟩ : ∃ g', Kp g7 g' ∧ Fm g' L _ W h7 ∧ Kp g' h7 := by
    refine F.settleJE W [] (J := [(lz, lisO (nvs ++ [Value.int 1 t1, .int 5 t2, .int 2 t3]) 0), (lx, lisO [Value.int 1 t1, .int 5 t2, .int 2 t3] 0)]) (by
      simp only [List.nil_append]
      exact (List.perm_append_comm (l₁ := [(lz, lisO (nvs ++ [Value.int 1 t1, .int 5 t2, .int 2 t3]) 0), (lx, lisO [Value.int 1 t1, .int 5 t2, .int 2 t3] 0)]) (l₂ := W))) fun g' kg _ F kh => ?_
    exact ⟨g', kg, F, kh⟩
  try walk_at "gK"
  exact H g' (("second", .ref qa) :: l) h7 tk7 (by (first | lia | omega)) ((G6.keeps kg7).keeps kg) (fun b o e => kg _ _ (kg7 _ _ (kg6 _ _ (kg5 _ _ e)))) (fun v hv => by show lk (("second", _) :: l) "numbers" = some v; exact hv) (fun v hv => by show lk (("second", _) :: l) "spare" = some v; exact hv) F
end
noncomputable abbrev tabs (ps1 ps2 : Array Value) : Ld := [(110, tabObj ps1), (117, tabObj ps2)]
theorem after_dm {g h h2 : Heap} {L : Addr} {l : List (Str × Value)} {N : Ld} {ps1 ps2 : Array Value} {r : Value} {q m : Int} (F : Fm g L l (tabs ps1 ps2 ++ N) h) (kx : KpX [110, 117] h h2) (dv : DvP h h2 r q m) {P : Value → Prop}
    (K : ∀ g' ps1' ps2' pa t1 t2 k, Kp g g' → Fm g' L l (tabs ps1' ps2') h2 → TbR g' p115 q1 ps1' → TbR g' p122 q2 ps2' → g'.get? pa = some (tupO [.int q t1, .int m t2] k) → P (.ref pa)) : P r := by
  obtain ⟨⟨ps1', e1', R1'⟩, ⟨ps2', e2', R2'⟩, pa, t3, t4, k, rfl, nw⟩ := dv
  have F0 : Fm g L l (tabs ps1 ps2) h := F.sub (List.sublist_append_left _ _)
  have F2 : Fm g L l (tabs ps1' ps2' ++ N) h2 := F.updX2 kx e1' e2'
  have hW : ∀ p ∈ tabs ps1' ps2', NoRec p.2 := fun p hp => by
    rcases List.mem_cons.mp hp with rfl | hp
    · exact TbR.norec R1'
    · rw [List.mem_singleton.mp hp]; exact TbR.norec R2'
  have F20 : Fm g L l (tabs ps1' ps2') h2 := F2.sub (List.sublist_append_left _ _)
  have nb := new_base F0 nw
  obtain ⟨a, b, c⟩ := Fm.rebase2 (tabs ps1' ps2') N F2
  exact K _ ps1' ps2' pa t3 t4 k c a (tb_base F20 hW R1') (tb_base F20 hW R2') nb
theorem intsAre_of : ∀ {n : Nat} {vs : List Value} {f : Nat → Int}, vs.length = n → (∀ i, i < n → ∃ t, vs[i]? = some (.int (f i) t)) → IntsAre vs ((List.range n).map f)
  | 0, [], _, _, _ => .nil
  | n + 1, v :: vs, f, hl, h => by
    obtain ⟨t, ht⟩ := h 0 (Nat.succ_pos _)
    have hv : v = .int (f 0) t := by simpa using ht
    subst hv
    rw [List.range_succ_eq_map, List.map_cons, List.map_map]
    exact .cons _ _ (intsAre_of (f := f ∘ Nat.succ) (by simpa using hl) fun i hi => by
      obtain ⟨t, ht⟩ := h (i + 1) (by (first | lia | omega))
      exact ⟨t, by simpa using ht⟩)
theorem prodN_pos {wd : Nat} (hw : 16 ≤ wd) : ∀ {ls : List Nat}, (∀ d ∈ ls, 1 ≤ d) → 0 < prodN wd ls := by
  have : ∀ (ls : List Nat) (p : Nat), 0 < p → (∀ d ∈ ls, 1 ≤ d) → 0 < ls.foldl (fun p l => p * (2 ^ (wd * l) - 1)) p := by
    intro ls
    induction ls with
    | nil => intro p hp _; exact hp
    | cons d ls ih =>
      intro p hp h
      rw [List.foldl_cons]
      refine ih _ (Nat.mul_pos hp ?_) fun e he => h e (.tail _ he)
      have h1 := h d (.head _)
      have : 1 < 2 ^ (wd * d) := Nat.one_lt_two_pow (Nat.mul_ne_zero (by (first | lia | omega)) (by (first | lia | omega)))
      (first | lia | omega)
  exact fun {ls} h => this ls 1 Nat.one_pos h
section
variable {w : World} {loose : List Str} {mean : ExcName → Option Value} {mg mb : Str → Option Value} {dp un : Nat} {fr : Option (List Env)} {gd : Option (List Code)} {s₀ : Shared} {L fa : Addr} {cd : Value} {Q : Flow → Shared → Prop}
theorem seg12 {g h : Heap} {l : List (Str × Value)} {ba la : Addr} {ss : List Nat} {sp : Int} {tsp : Tok} {MS : Nat} {tk : Nat} (hd : dp + 100 < recursionLimit) (hu : un + 700 < cLine) (G : Gd w loose mean mg mb g) (hS : Shp ss) (hbx : BoxF g ba (boxesL ss)) (cb : Cl g (L + 2) (.ref ba)) (hlen : NatF g la (hooksL ss)) (cl : Cl g (L + 6) (.ref la))
    (lsp : lk l "spare" = some (.int sp tsp)) (hMS1 : 1 ≤ MS) (hMS : MS ≤ 1400000) (hsp : sp.natAbs < 2 ^ MS) (F : Fm g L l tabs0 h)
    (H : ∀ h' tk', Kp g h' → (∃ ps, h'.get? 110 = some (tabObj ps)) → (∃ ps, h'.get? 117 = some (tabObj ps)) → Q (.ret (.bool true)) (St s₀ h' tk')) :
    wpAny (model MP w) (Ar dp un fr gd) (execs ((lawB w.params).drop 20) (lawE w.params L fa cd)) Q No (St s₀ h tk) := by
  have hok := okB_all ss hS.mem
  simp only [okB, Bool.and_eq_true, decide_eq_true_eq] at hok
  obtain ⟨⟨hokb, hls⟩, hld⟩ := hok
  have hld2 : ∀ d ∈ hooksL ss, 1 ≤ d ∧ d ≤ 5 := fun d hd => of_decide_eq_true (List.all_eq_true.mp hld d hd)
  have hb9 := boxes_len hS
  obtain ⟨lvs, ln, el, li⟩ := hlen
  dsimp only [lawB, fnBody, List.drop]
  refine wpAny_execs_cons ?_
  refine wpAny_Assign_Name ?_ (by rfl)
  refine wpAny_BinOp ?_
  refine ci fun t1 tk1 y1 => ?_
  refine wpAny_BinOp ?_
  refine nm F ?_ lsp
  refine ci fun t2 tk2 y2 => ?_
  refine r_mod (by decide) fun t3 tk3 q3 => ?_
  refine r_add fun t4 tk4 q4 => ?_
  have hm0 : 0 ≤ sp.fmod 16 := Int.fmod_nonneg_of_pos _ (by decide)
  have hm1 : sp.fmod 16 < 16 := Int.fmod_lt_of_pos _ (by decide)
  obtain ⟨kw, hkw⟩ := Int.eq_ofNat_of_zero_le hm0
  rw [hkw] at hm1 ⊢
  have hk16 : kw < 16 := by (first | lia | omega)
  rw [show (16 : Int) + (kw : Int) = ((16 + kw : Nat) : Int) by (first | lia | omega)]
  have hchk : digsL (2 ^ ((16 + kw) * (3 + (hooksL ss).sum)) / prodN (16 + kw) (hooksL ss)) (16 + kw) = (countsP (boxesL ss)).reverse := by
    have h := chk_all ss hS.mem kw hk16
    unfold chk at h
    exact beq_iff_eq.mp h
  generalize hwd : 16 + kw = wd at hchk ⊢
  have hwd2 : 16 ≤ wd ∧ wd ≤ 31 := by (first | lia | omega)
  walk_at "g"
  replace F := (‹Fm _ _ (("width", _) :: _) _ _› : Fm _ L _ _ _)
  refine wpAny_execs_cons ?_
  refine asg2 rfl ?_
  refine wpAny_BinOp ?_
  refine ci fun t5 tk5 q5 => ?_
  refine wpAny_BinOp ?_
  walk_at "ge"
  refine wpAny_BinOp ?_
  refine ci fun t6 tk6 q6 => ?_
  refine callB F G (bn_sum G) bv_sum ?_
  walk_at "gs"
  refine r_sumL rfl F (F.keep _ _ el) (IsLst.of _ _) li fun t7 h7 tk7 q7 k7 F => ?_
  rw [sum_cast]
  refine r_add fun t8 tk8 q8 => ?_
  rw [show (3 : Int) + ((hooksL ss).sum : Nat) = ((3 + (hooksL ss).sum : Nat) : Int) by (first | lia | omega)]
  generalize hSm : (hooksL ss).sum = Sm at hls hchk ⊢
  refine r_mul (fun t9 tk9 q9 => ?_) (IntMulOk.of_le (m := 32) (n := 32) (intBits_le_iff.mpr (by simp; (first | lia | omega))) (intBits_le_iff.mpr (by simp; (first | lia | omega))) (by decide))
  rw [← Int.natCast_mul]
  have hwS : wd * (3 + Sm) ≤ 31 * 33 := Nat.mul_le_mul (by (first | lia | omega)) (by (first | lia | omega))
  refine r_shl (Int.natCast_nonneg _) (by
    have : Builtin.Int.intBits (1 : Int) ≤ 1 := intBits_le_iff.mpr (by decide)
    (first | lia | omega)) fun t10 tk10 q10 => ?_
  rw [Int.toNat_natCast, pow_cast, Int.one_mul]
  refine callN F G (gn_law_product G) ki_law_product fun Qc Kc => ?_
  walk_at "gs"
  refine CN.mk F.keep ?_
  refine Fn.iF (t_product (G.keeps F.keep) (F.keep _ _ el) (IsLst.of _ _) li wd _ (by (first | lia | omega)) (by (first | lia | omega)) (fun d hd => by have := hld2 d hd; (first | lia | omega))) F (by (first | lia | omega)) (by (first | lia | omega)) fun h11 tk11 t12 q11 F => ?_
  refine Le.go Kc ?_
  try clear Kc Qc
  try dsimp only
  have hplt : prodN wd (hooksL ss) ≤ 2 ^ (wd * Sm) := by rw [← hSm]; exact prodN_lt _ _
  have hp0 : 0 < prodN wd (hooksL ss) := prodN_pos hwd2.1 fun d hd => (hld2 d hd).1
  generalize prodN wd (hooksL ss) = pr at hchk hplt hp0 ⊢
  have htop : 2 ^ (wd * (3 + Sm)) < 2 ^ 1100 := Nat.pow_lt_pow_right (by decide) (by (first | lia | omega))
  have hpt : pr ≤ 2 ^ (wd * (3 + Sm)) := Nat.le_trans hplt (Nat.pow_le_pow_right (by decide) (Nat.mul_le_mul_left _ (by (first | lia | omega))))
  have ht0 : 0 < 2 ^ (wd * (3 + Sm)) := Nat.two_pow_pos _
  obtain ⟨M, hM1, hM, htop⟩ : ∃ M, 1 ≤ M ∧ M ≤ 2000 ∧ 2 ^ (wd * (3 + Sm)) < 2 ^ M := ⟨1100, by decide, by decide, htop⟩
  generalize 2 ^ (wd * (3 + Sm)) = top at hchk htop hpt ht0 ⊢
  have hpM : pr < 2 ^ M := Nat.lt_of_le_of_lt hpt htop
  have hlogp : ((pr : Int)).natAbs.log2 < 9000 := by
    rw [Int.natAbs_natCast]
    exact Nat.lt_of_lt_of_le ((Nat.log2_lt (by (first | lia | omega))).mpr hpM) (by (first | lia | omega))
  have hlogp2 : (-(pr : Int)).natAbs.log2 < 9000 := by rw [Int.natAbs_neg]; exact hlogp
  have htsp : ((top : Int) + sp).natAbs < 2 ^ (M + MS) := by
    have h1 : 2 ^ M * 2 ^ MS = 2 ^ (M + MS) := (Nat.pow_add 2 M MS).symm
    have h2 : 2 ≤ 2 ^ M := by
      have := Nat.pow_le_pow_right (n := 2) (by decide) hM1
      simpa using this
    have h3 : 2 ≤ 2 ^ MS := by
      have := Nat.pow_le_pow_right (n := 2) (by decide) hMS1
      simpa using this
    have h4 : 2 ^ M + 2 ^ MS ≤ 2 ^ M * 2 ^ MS := by
      generalize 2 ^ M = a at h2
      generalize 2 ^ MS = b at h3
      have := Nat.mul_le_mul h2 (Nat.le_refl b)
      have := Nat.mul_le_mul (Nat.le_refl a) h3
      (first | lia | omega)
    generalize 2 ^ (M + MS) = c at h1
    generalize 2 ^ M = a at *
    generalize 2 ^ MS = b at *
    (first | lia | omega)
  refine A2.mk F fun h13 tk13 q13 F => ?_
  refine wpAny_execs_cons ?_
  refine wpAny_Assign_Name ?_ (by rfl)
  refine callN F G (gn_int_divmod G) ki_int_divmod fun Qc Kc => ?_
  walk_at "gs"
  refine CN.mk F.keep ?_
  replace F : Fm g L _ (tabs #[] #[] ++ []) h13 := F.perm (List.Perm.swap _ _ _)
  have R1 : TbR g p115 q1 #[] := .inl rfl
  have R2 : TbR g p122 q2 #[] := .inl rfl
  have gt : ∀ a ∈ ([110, 117] : List Addr), g.get? a = none := fun a ha => by
    rcases List.mem_cons.mp ha with rfl | ha
    · exact (F.led _ (.head _)).2.2
    · rw [List.mem_singleton.mp ha]; exact (F.led _ (.tail _ (.head _))).2.2
  refine t_dmp (G.keeps (kp_but F.keep gt)) (R1.ok F.keep (F.of (q := (110, tabObj #[])) (by walk_at "mm"))) (R2.ok F.keep (F.of (q := (117, tabObj #[])) (by walk_at "mm"))) top pr _ _ hp0 hM hpM (MX := M) (by (first | lia | omega)) (by rw [Int.natAbs_natCast]; exact htop) dp un fr gd _ _ (by (first | lia | omega)) (by (first | lia | omega)) ?_
  rintro r14 h14 tk14 q14 kx14 dv14
  refine Le.go Kc ?_
  try clear Kc Qc
  try dsimp only
  apply after_dm F kx14 dv14
  intro g' ps1 ps2 pa t15 t16 k16 kg1 F R1' R2' ep
  replace G := G.keeps kg1
  replace cb := cb.keeps kg1
  replace hbx := hbx.keeps kg1
  clear R1 R2 dv14
  walk_at "g"
  replace F := (‹Fm _ _ (("pair", _) :: _) _ _› : Fm _ L _ _ _)
  refine wpAny_execs_cons ?_
  refine wpAny_If ?_
  refine wpAny_isTrue_BoolOp ?_
  refine wpAny_allTrue_Or_cons ?_
  refine wpAny_isTrue_Compare1 ?_ (by rfl)
  walk_at "gs"
  refine r_fdiv (by (first | lia | omega)) hlogp fun t17 tk17 q17 => ?_
  walk_at "gs"
  refine r_mod (by (first | lia | omega)) fun t18 tk18 q18 => ?_
  walk_at "gs"
  refine mkT F (by show 2 ≤ sizeLine; decide) fun ta h19 _ _ F => ?_
  refine ne_same (d := .tuple [.int ((top : Int).fdiv pr), .int ((top : Int).fmod pr)]) (B := 0) (B' := 0) (.tuple (F.keep _ _ ep) (.cons (.int _ _) (.cons (.int _ _) .nil))) (.tuple (F.of (.head _)) (.cons (.int _ _) (.cons (.int _ _) .nil))) (by simp [kqdOk]) (by show un + 64 < cLine; (first | lia | omega)) ?_
  refine wpAny_truthy_bool ?_
  refine iteF Bool.false_ne_true ?_
  refine wpAny_allTrue_Or_cons ?_
  refine wpAny_isTrue_Compare1 ?_ (by rfl)
  refine callN F G (gn_int_divmod G) ki_int_divmod fun Qc Kc => ?_
  refine spliced_more ?_ (by rfl)
  refine callN F G (gn_neg G) ki_neg fun Qc Kc => ?_
  walk_at "gs"
  refine CN.mk F.keep ?_
  refine Fn.iF (t_neg (G.keeps F.keep) _ _) F (by (first | lia | omega)) (by (first | lia | omega)) fun h20 tk20 t21 q20 F => ?_
  refine Le.go Kc ?_
  try clear Kc Qc
  try dsimp only
  walk_at "gs"
  refine CN.mk F.keep ?_
  replace F := F.perm (show List.Perm _ (tabs ps1 ps2 ++ [(ta, tupO [.int ((top : Int).fdiv pr) t17, .int ((top : Int).fmod pr) t18] 0)]) from (List.Perm.swap _ _ _).trans (List.Perm.cons _ (List.Perm.swap _ _ _)))
  have gt : ∀ a ∈ ([110, 117] : List Addr), g'.get? a = none := fun a ha => by
    rcases List.mem_cons.mp ha with rfl | ha
    · exact (F.led _ (.head _)).2.2
    · rw [List.mem_singleton.mp ha]; exact (F.led _ (.tail _ (.head _))).2.2
  refine t_dmp (G.keeps (kp_but F.keep gt)) (R1'.ok F.keep (F.of (q := (110, tabObj ps1)) (by walk_at "mm"))) (R2'.ok F.keep (F.of (q := (117, tabObj ps2)) (by walk_at "mm"))) (-(top : Int)) pr _ _ hp0 hM hpM (MX := M) (by (first | lia | omega)) (by rw [Int.natAbs_neg, Int.natAbs_natCast]; exact htop) dp un fr gd _ _ (by (first | lia | omega)) (by (first | lia | omega)) ?_
  rintro r22 h22 tk22 q22 kx22 dv22
  refine Le.go Kc ?_
  try clear Kc Qc
  try dsimp only
  apply after_dm F kx22 dv22
  intro g2 ps3 ps4 pb t23 t24 k24 kg2 F R3 R4 eb2
  replace G := G.keeps kg2
  replace cb := cb.keeps kg2
  replace hbx := hbx.keeps kg2
  replace ep := kg2 _ _ ep
  clear dv22 R1' R2' gt
  walk_at "gs"
  refine r_fdiv (by (first | lia | omega)) hlogp fun t25 tk25 q25 => ?_
  walk_at "gs"
  refine r_mod (by (first | lia | omega)) fun t26 tk26 q26 => ?_
  walk_at "gs"
  refine mkT F (by show 2 ≤ sizeLine; decide) fun tb h27 _ _ F => ?_
  refine ne_same (d := .tuple [.int ((-(top : Int)).fdiv pr), .int ((-(top : Int)).fmod pr)]) (B := 0) (B' := 0) (.tuple (F.keep _ _ eb2) (.cons (.int _ _) (.cons (.int _ _) .nil))) (.tuple (F.of (.head _)) (.cons (.int _ _) (.cons (.int _ _) .nil))) (by simp [kqdOk]) (by show un + 64 < cLine; (first | lia | omega)) ?_
  refine wpAny_truthy_bool ?_
  refine iteF Bool.false_ne_true ?_
  refine wpAny_allTrue_Or_nil ?_
  refine iteF Bool.false_ne_true ?_
  refine wpAny_execs_nil ?_
  refine wpAny_execs_cons ?_
  refine wpAny_If ?_
  refine wpAny_isTrue_Compare1 ?_ (by rfl)
  refine callN F G (gn_int_divmod G) ki_int_divmod fun Qc Kc => ?_
  refine spliced_more ?_ (by rfl)
  refine callN F G (gn_add G) ki_add fun Qc Kc => ?_
  refine spliced_more ?_ (by rfl)
  walk_at "ge"
  refine spliced_more ?_ (by rfl)
  refine nm F ?_ (by exact lsp)
  refine spliced_none ?_
  refine CN.mk F.keep ?_
  refine Fn.iF (t_add (G.keeps F.keep) _ _ _ _) F (by (first | lia | omega)) (by (first | lia | omega)) fun h28 tk28 t29 q28 F => ?_
  refine Le.go Kc ?_
  try clear Kc Qc
  try dsimp only
  refine spliced_more ?_ (by rfl)
  refine callN F G (gn_neg G) ki_neg fun Qc Kc => ?_
  walk_at "gs"
  refine CN.mk F.keep ?_
  refine Fn.iF (t_neg (G.keeps F.keep) _ _) F (by (first | lia | omega)) (by (first | lia | omega)) fun h30 tk30 t31 q30 F => ?_
  refine Le.go Kc ?_
  try clear Kc Qc
  try dsimp only
  walk_at "gs"
  refine CN.mk F.keep ?_
  replace F := F.perm (show List.Perm _ (tabs ps3 ps4 ++ [(tb, tupO [.int ((-(top : Int)).fdiv pr) t25, .int ((-(top : Int)).fmod pr) t26] 0)]) from (List.Perm.swap _ _ _).trans (List.Perm.cons _ (List.Perm.swap _ _ _)))
  have gt : ∀ a ∈ ([110, 117] : List Addr), g2.get? a = none := fun a ha => by
    rcases List.mem_cons.mp ha with rfl | ha
    · exact (F.led _ (.head _)).2.2
    · rw [List.mem_singleton.mp ha]; exact (F.led _ (.tail _ (.head _))).2.2
  refine t_dmn (G.keeps (kp_but F.keep gt)) (R3.ok F.keep (F.of (q := (110, tabObj ps3)) (by walk_at "mm"))) (R4.ok F.keep (F.of (q := (117, tabObj ps4)) (by walk_at "mm"))) ((top : Int) + sp) pr _ _ hp0 hM hpM (MX := M + MS) (by (first | lia | omega)) htsp dp un fr gd _ _ (by (first | lia | omega)) (by (first | lia | omega)) ?_
  rintro r32 h32 tk32 q32 kx32 dv32
  refine Le.go Kc ?_
  try clear Kc Qc
  try dsimp only
  apply after_dm F kx32 dv32
  intro g3 ps5 ps6 pc t33 t34 k34 kg3 F R5 R6 ec
  replace G := G.keeps kg3
  replace cb := cb.keeps kg3
  replace hbx := hbx.keeps kg3
  replace ep := kg3 _ _ ep
  clear dv32 R3 R4 gt
  refine Tuple_ ?_
  refine spliced_more ?_ (by rfl)
  refine wpAny_BinOp ?_
  refine wpAny_BinOp ?_
  walk_at "ge"
  refine nm F ?_ (by exact lsp)
  refine r_add fun t35 tk35 q35 => ?_
  walk_at "gs"
  refine r_fdiv (by (first | lia | omega)) hlogp2 fun t36 tk36 q36 => ?_
  refine spliced_more ?_ (by rfl)
  refine wpAny_BinOp ?_
  refine wpAny_BinOp ?_
  walk_at "ge"
  refine nm F ?_ (by exact lsp)
  refine r_add fun t37 tk37 q37 => ?_
  walk_at "gs"
  refine r_mod (by (first | lia | omega)) fun t38 tk38 q38 => ?_
  walk_at "gs"
  refine mkT F (by show 2 ≤ sizeLine; decide) fun tc h39 _ _ F => ?_
  refine ne_same (d := .tuple [.int (((top : Int) + sp).fdiv (-(pr : Int))), .int (((top : Int) + sp).fmod (-(pr : Int)))]) (B := 0) (B' := 0) (.tuple (F.keep _ _ ec) (.cons (.int _ _) (.cons (.int _ _) .nil))) (.tuple (F.of (.head _)) (.cons (.int _ _) (.cons (.int _ _) .nil))) (by simp [kqdOk]) (by show un + 64 < cLine; (first | lia | omega)) ?_
  refine wpAny_truthy_bool ?_
  refine iteF Bool.false_ne_true ?_
  refine wpAny_execs_nil ?_
  refine wpAny_execs_cons ?_
  refine wpAny_Return_some ?_
  refine BoolOp_and ?_
  refine wpAny_Compare1 ?_ (by rfl)
  refine callN F G (gn_int_divmod G) ki_int_divmod fun Qc Kc => ?_
  refine spliced_more ?_ (by rfl)
  refine callN F G (gn_neg G) ki_neg fun Qc Kc => ?_
  walk_at "gs"
  refine CN.mk F.keep ?_
  refine Fn.iF (t_neg (G.keeps F.keep) _ _) F (by (first | lia | omega)) (by (first | lia | omega)) fun h40 tk40 t41 q40 F => ?_
  refine Le.go Kc ?_
  try clear Kc Qc
  try dsimp only
  walk_at "gs"
  refine CN.mk F.keep ?_
  replace F := F.perm (show List.Perm _ (tabs ps5 ps6 ++ [(tc, tupO [.int (((top : Int) + sp).fdiv (-(pr : Int))) t36, .int (((top : Int) + sp).fmod (-(pr : Int))) t38] 0)]) from (List.Perm.swap _ _ _).trans (List.Perm.cons _ (List.Perm.swap _ _ _)))
  have gt : ∀ a ∈ ([110, 117] : List Addr), g3.get? a = none := fun a ha => by
    rcases List.mem_cons.mp ha with rfl | ha
    · exact (F.led _ (.head _)).2.2
    · rw [List.mem_singleton.mp ha]; exact (F.led _ (.tail _ (.head _))).2.2
  refine t_dmp (G.keeps (kp_but F.keep gt)) (R5.ok F.keep (F.of (q := (110, tabObj ps5)) (by walk_at "mm"))) (R6.ok F.keep (F.of (q := (117, tabObj ps6)) (by walk_at "mm"))) (-(pr : Int)) top _ _ ht0 hM htop (MX := M) (by (first | lia | omega)) (by rw [Int.natAbs_neg, Int.natAbs_natCast]; exact hpM) dp un fr gd _ _ (by (first | lia | omega)) (by (first | lia | omega)) ?_
  rintro r42 h42 tk42 q42 kx42 dv42
  refine Le.go Kc ?_
  try clear Kc Qc
  try dsimp only
  apply after_dm F kx42 dv42
  intro g4 ps7 ps8 pd t43 t44 k44 kg4 F R7 R8 ed
  replace G := G.keeps kg4
  replace cb := cb.keeps kg4
  replace hbx := hbx.keeps kg4
  replace ep := kg4 _ _ ep
  clear dv42 R5 R6 gt
  have hq : (-(pr : Int)).fdiv (top : Int) = -1 ∧ (-(pr : Int)).fmod (top : Int) = (top : Int) - pr := by
    rw [Int.fdiv_eq_ediv_of_nonneg _ (by (first | lia | omega)), Int.fmod_eq_emod_of_nonneg _ (by (first | lia | omega))]
    exact (Int.ediv_emod_unique (a := -(pr : Int)) (b := (top : Int)) (q := -1) (r := (top : Int) - pr) (by (first | lia | omega))).mpr ⟨by (first | lia | omega), by (first | lia | omega), by (first | lia | omega)⟩
  rw [hq.1, hq.2] at ed
  refine Tuple_ ?_
  refine spliced_more ?_ (by rfl)
  walk_at "ge"
  refine ci fun t45 tk45 q45 => ?_
  refine r_neg fun t46 tk46 q46 => ?_
  refine spliced_more ?_ (by rfl)
  refine callN F G (gn_sub G) ki_sub fun Qc Kc => ?_
  walk_at "gs"
  refine CN.mk F.keep ?_
  refine Fn.iF (t_sub (G.keeps F.keep) _ _ _ _) F (by (first | lia | omega)) (by (first | lia | omega)) fun h47 tk47 t48 q47 F => ?_
  refine Le.go Kc ?_
  try clear Kc Qc
  try dsimp only
  walk_at "gs"
  refine mkT F (by show 2 ≤ sizeLine; decide) fun td h49 _ _ F => ?_
  refine eq_same (d := .tuple [.int (-1), .int ((top : Int) - pr)]) (B := 0) (B' := 0) (.tuple (F.keep _ _ ed) (.cons (.int _ _) (.cons (.int _ _) .nil))) (.tuple (F.of (.head _)) (.cons (.int _ _) (.cons (.int _ _) .nil))) (by simp [kqdOk]) (by show un + 64 < cLine; (first | lia | omega)) ?_
  refine wpAny_truthy_bool ?_
  refine iteT rfl ?_
  refine BoolOp_one ?_
  refine wpAny_Compare1 ?_ (by rfl)
  refine callN F G (gn_int2digits G) ki_int2digits fun Qc Kc => ?_
  walk_at "gs"
  rw [fdiv_nat] at ep
  refine itT (j := 0) (F.keep _ _ ep) (by decide) (by decide) (by rfl) rfl ?_
  walk_at "gs"
  refine CN.mk F.keep ?_
  replace F := F.perm (show List.Perm _ (tabs ps7 ps8 ++ [(td, tupO [.int (-1) t46, .int ((top : Int) - pr) t48] 0)]) from (List.Perm.swap _ _ _).trans (List.Perm.cons _ (List.Perm.swap _ _ _)))
  have g110 : g4.get? 110 = none := (F.led _ (.head _)).2.2
  have hXM : top / pr < 2 ^ M := Nat.lt_of_le_of_lt (Nat.div_le_self _ _) htop
  refine t_int2digits (G.keeps (kp_but F.keep (fun a ha => by rw [List.mem_singleton.mp ha]; exact g110))) (R7.ok F.keep (F.of (q := (110, tabObj ps7)) (by walk_at "mm"))) (top / pr) wd _ _ (by (first | lia | omega)) (by (first | lia | omega)) (by (first | lia | omega)) hXM dp un fr gd _ _ (by (first | lia | omega)) (by (first | lia | omega)) ?_
  rintro r50 h50 tk50 q50 kx50 ⟨⟨ps9, e9, _⟩, da, od, dvs, rfl, nda, hld3, hdl, hdv⟩
  refine Le.go Kc ?_
  try clear Kc Qc
  try dsimp only
  replace F : Fm g4 L _ ((da, od) :: (110, tabObj ps9) :: (117, tabObj ps8) :: [(td, tupO [.int (-1) t46, .int ((top : Int) - pr) t48] 0)]) h50 := Fm.updNew F kx50 e9 nda
  have hid : IntsAre dvs ((digsL (top / pr) wd).map fun d : Nat => (d : Int)) := by
    unfold digsL
    rw [List.map_map]
    exact intsAre_of hdl fun i hi => hdv i (by (first | lia | omega))
  rw [hchk] at hid
  obtain ⟨bvs, bn, eb, rb⟩ := hbx
  have hbx : ∀ (k : Nat) (b : Nat × Nat), (boxesL ss)[k]? = some b → (b.2 = 0 ∨ 0 < k) ∧ (b.1 = 0 ∨ (boxesL ss).idxOf (b.1 - 1, b.2) < k) := by
    intro k b hb
    have := List.all_eq_true.mp hokb k (List.mem_range.mpr (List.getElem?_eq_some_iff.mp hb).1)
    rw [hb] at this
    simpa using this
  refine slcV (s₀ := s₀) ?_
  refine callN F G (gn_law_counts G) ki_law_counts fun Qc Kc => ?_
  walk_at "gs"
  refine CN.mk F.keep ?_
  refine t_counts (G.keeps F.keep) (F.keep _ _ eb) (rb.mono (fun a o e => F.keep _ _ e) (Nat.le_refl _)) hb9 hbx dp un fr gd _ _ (by (first | lia | omega)) (by (first | lia | omega)) ?_
  rintro r51 h51 tk51 q51 kx51 ⟨ca, cn, cvs, rfl, nca, hci⟩
  refine Le.go Kc ?_
  try clear Kc Qc
  try dsimp only
  replace F := F.new (kpx kx51) nca.1 nca.2
  refine evN ?_
  refine evN ?_
  refine evS ?_
  walk_at "gs"
  refine SV.mk (vs := cvs) (lo := none) (hi := none) (k := some (-1)) F (F.of (.head _)) (IsLst.of _ _) ?_ .none .none (.int _ _) (by simp) fun D3 h52 F => ?_
  · rw [hci.length, List.length_map]
    show ((List.range 4).map _).length ≤ sizeLine
    rw [List.length_map, List.length_range]; decide
  rw [krv_pick] at F
  have hir : IntsAre cvs.reverse (((countsP (boxesL ss)).reverse).map fun d : Nat => (d : Int)) := RA.toInts (H := fun _ _ => True) (B := 0) (by rw [List.map_reverse, List.map_reverse]; exact (RA.ints hci).reverse)
  refine eq_same (d := .list ((((countsP (boxesL ss)).reverse).map fun d : Nat => (d : Int)).map Dat.int)) (B := 0) (B' := 0) (.list (F.of (q := (da, od)) (by walk_at "mm")) hld3 (RA.ints hid)) (.list (F.of (.head _)) (IsLst.of _ _) (by simpa using RA.ints (H := At h52) (B := 0) hir)) ?_ (by show un + 64 < cLine; (first | lia | omega)) ?_
  · refine List.all_eq_true.mpr fun d hd => ?_
    obtain ⟨x, _, rfl⟩ := List.mem_map.mp hd
    rfl
  have e110 := F.of (q := (110, tabObj ps9)) (by walk_at "mm")
  have e117 := F.of (q := (117, tabObj ps8)) (by walk_at "mm")
  try walk_at "gK"
  exact H h52 _ (fun b o e => F.keep _ _ (kg4 _ _ (kg3 _ _ (kg2 _ _ (kg1 _ _ e))))) ⟨_, e110⟩ ⟨_, e117⟩
end
theorem opC_range (cnt : Nat → Nat → Nat) (r : Nat) : ∀ k c, opC cnt r k c = (List.range' c k).flatMap fun c => List.replicate (cnt r c) (r, c)
  | 0, _ => rfl
  | k + 1, c => by rw [opC, opC_range cnt r k (c + 1), List.range'_succ, List.flatMap_cons]
theorem due_eq (s : Nat → Nat) (cnt : Nat → Nat → Nat) : ∀ R, (opR s cnt R).reverse = dueL s cnt R
  | 0 => rfl
  | R + 1 => by
    rw [opR, List.reverse_append, due_eq s cnt R]
    unfold dueL
    rw [List.range_succ, List.flatMap_append]
    congr 1
    rw [opC_range, List.reverse_flatMap, ← List.range_eq_range']
    simp only [List.flatMap_cons, List.flatMap_nil, List.append_nil]
    unfold dueRow
    rw [List.take_of_length_le (by simp)]
    congr 1
    funext c
    simp [Function.comp]
theorem sum_bound {K : Nat} : ∀ (ns : List Int), (∀ i ∈ ns, i.natAbs < 2 ^ K) → ns.sum.natAbs ≤ ns.length * 2 ^ K
  | [], _ => by simp
  | i :: ns, h => by
    have h1 := sum_bound ns fun j hj => h j (.tail _ hj)
    have h2 := h i (.head _)
    rw [List.sum_cons, List.length_cons, Nat.add_mul, Nat.one_mul]
    have := Int.natAbs_add_le i ns.sum
    (first | lia | omega)
theorem item_bound {ns : List Int} (h : (PyData.list (ns.map PyData.int)).layable0 = true) : ∃ K, K ≤ 1048576 ∧ ∀ i ∈ ns, i.natAbs < 2 ^ K := by
  have : ∀ K, K = 2 ^ 20 → ∀ i ∈ ns, i.natAbs < 2 ^ K := by
    intro K hK i hi
    have h1 := PyData.weight_item_of_list h (x := .int i) (List.mem_map_of_mem hi)
    by_cases h0 : i = 0
    · subst h0; exact Nat.two_pow_pos K
    · have e : PyData.weight (.int i) = i.natAbs.log2 + 1 := by
        show (if i == 0 then 0 else i.natAbs.log2 + 1) = _
        rw [if_neg (by simpa using h0)]
      rw [e, ← hK] at h1
      exact (Nat.log2_lt (by (first | lia | omega))).mp (by (first | lia | omega))
  exact ⟨2 ^ 20, by decide, this _ rfl⟩
section
variable {w : World} {loose : List Str} {mean : ExcName → Option Value} {mg mb : Str → Option Value} {dp un : Nat} {fr : Option (List Env)} {gd : Option (List Code)} {s₀ : Shared} {L fa : Addr} {cd : Value} {Q : Flow → Shared → Prop}
theorem law_walk {g h₁ : Heap} {ax : Addr} {so o1 o2 o3 o4 o5 o6 : Obj} {vs : List Value} {ns : List Int} {t₀ K : Nat} (hd : dp + 100 < recursionLimit) (hu : un + 700 < cLine) (G : Gd w loose mean mg mb g)
    (F : Fm g L [("script", .ref ax)] ([(L + 6, o6), (L + 5, o5), (L + 4, o4), (L + 3, o3), (L + 2, o2), (L + 1, o1)] ++ tabs0) h₁) (c1 : IsCell o1) (c2 : IsCell o2) (c3 : IsCell o3) (c4 : IsCell o4) (c5 : IsCell o5) (c6 : IsCell o6)
    (el : g.get? ax = some so) (hl : IsLst so vs) (hi : IntsAre vs ns) (hz : ns.length ≤ 63) (hK : K ≤ 1048576) (hb : ∀ i ∈ ns, i.natAbs < 2 ^ K)
    (H : ∀ h' tk', Kp g h' → (∃ ps, h'.get? 110 = some (tabObj ps)) → (∃ ps, h'.get? 117 = some (tabObj ps)) → Q (.ret (.bool true)) (St s₀ h' tk')) :
    wpAny (model MP w) (Ar dp un fr gd) (execs ((lawB w.params).drop 0) (lawE w.params L fa cd)) Q No { s₀ with heap := h₁, toks := t₀ } := by
  refine seg0 (by (first | lia | omega)) (by (first | lia | omega)) G F c1 el hl hi hz fun g1 l h1 tk1 nx sa ss t1 G1 k1 fn fs hS cs ln lsp F => ?_
  have S := hS.sh
  have hR3 := S.R3
  refine seg1 G1 hS fs cs F c2 fun g2 h2 tk2 ba t2 G2 k2 fb cb F => ?_
  replace fn := fn.keeps k2
  replace fs := fs.keeps k2
  replace cs := cs.keeps k2
  have hn60 : (ns.take 60).length ≤ 60 := List.length_take_le _ _
  refine seg2 G2 hS fn hn60 ln fb cb F c3 fun g3 h3 tk3 da drawn t3 G3 k3 fd hdm hd24 cD F => ?_
  replace fn := fn.keeps k3
  replace fs := fs.keeps k3
  replace cs := cs.keeps k3
  replace fb := fb.keeps k3
  replace cb := cb.keeps k3
  have hdv : ∀ p ∈ drawn, p.1 < ss.length ∧ p.2 < sh ss p.1 := fun p hp => boxes_mem (hdm p hp)
  have hd3 : ∀ p ∈ drawn, p.1 < 3 ∧ p.2 < 3 := fun p hp => by
    have := hdv p hp
    have := S.le3 p.1
    (first | lia | omega)
  refine seg3 (by (first | lia | omega)) (by (first | lia | omega)) G3 fd hd24 hd3 cD F c4 fun g4 l4 h4 tk4 x lx t4 G4 k4 hB cx ln4 lsp4 F => ?_
  replace fn := fn.keeps k4
  replace fs := fs.keeps k4
  replace cs := cs.keeps k4
  replace fb := fb.keeps k4
  replace cb := cb.keeps k4
  replace fd := fd.keeps k4
  replace cD := cD.keeps k4
  replace ln := ln4 _ ln
  replace lsp := lsp4 _ lsp
  clear ln4 lsp4
  obtain ⟨gf, P, M, htot, T⟩ := pureA S (fun r c => drawn.count (r, c))
  refine seg4 (by (first | lia | omega)) (by (first | lia | omega)) G4 hS fs cs fd hd24 hd3 cD hB (Nat.le_refl _) cx F fun g5 l5 h5 tk5 t5 G5 k5 ln5 lsp5 F => ?_
  replace fn := fn.keeps k5
  replace fs := fs.keeps k5
  replace cs := cs.keeps k5
  replace fb := fb.keeps k5
  replace cb := cb.keeps k5
  replace fd := fd.keeps k5
  replace cD := cD.keeps k5
  replace hB := hB.keeps k5 (Nat.le_refl _)
  replace cx := cx.keeps k5
  replace ln := ln5 _ ln
  replace lsp := lsp5 _ lsp
  clear ln5 lsp5
  refine seg5 (by (first | lia | omega)) (by (first | lia | omega)) G5 hS fs cs hd24 hB t5 cx P F c5 fun g6 h6 tk6 ga t6 G6 k6 fg cg F => ?_
  replace fn := fn.keeps k6
  replace fs := fs.keeps k6
  replace cs := cs.keeps k6
  replace fb := fb.keeps k6
  replace cb := cb.keeps k6
  replace fd := fd.keeps k6
  replace cD := cD.keeps k6
  refine seg6 (by (first | lia | omega)) (by (first | lia | omega)) G6 hS fs cs fb cb F c6 fun g7 h7 tk7 la t7 G7 k7 fl cl F => ?_
  replace fn := fn.keeps k7
  replace fs := fs.keeps k7
  replace cs := cs.keeps k7
  replace fb := fb.keeps k7
  replace cb := cb.keeps k7
  replace fd := fd.keeps k7
  replace cD := cD.keeps k7
  replace fg := fg.keeps k7
  replace cg := cg.keeps k7
  have hrl : (rowsOf (sh ss) ss.length gf).length ≤ 3 := by simp [rowsOf]; (first | lia | omega)
  have hpm := opR_perm hdv
  have hsum : ((rowsOf (sh ss) ss.length gf).map List.sum).sum = (drawn.map (hk (sh ss) ss.length)).sum := by
    have e1 : ((rowsOf (sh ss) ss.length gf).map List.sum).sum = total (sh ss) ss.length gf := by
      unfold rowsOf total
      rw [List.map_map]; rfl
    rw [e1, htot]
    exact sum_perm (hpm.map _)
  refine seg7 (by (first | lia | omega)) (by (first | lia | omega)) G7 hS fg hrl cg fb cb fd cD hd24 hdm fl cl hsum F fun g8 h8 tk8 t8 G8 k8 F => ?_
  replace fn := fn.keeps k8
  replace fs := fs.keeps k8
  replace cs := cs.keeps k8
  replace fb := fb.keeps k8
  replace cb := cb.keeps k8
  replace fd := fd.keeps k8
  replace cD := cD.keeps k8
  replace fg := fg.keeps k8
  replace cg := cg.keeps k8
  replace fl := fl.keeps k8
  replace cl := cl.keeps k8
  have hr3 : ∀ r ∈ rowsOf (sh ss) ss.length gf, r.length ≤ 3 := fun r hr => by
    obtain ⟨i, _, rfl⟩ := List.mem_map.mp hr
    rw [rowL_len]; exact S.le3 i
  have hsrt : ∀ r ∈ linesL (rowsOf (sh ss) ss.length gf) (sh ss 0), r.Pairwise (· ≤ ·) := fun r hr => by
    rcases List.mem_append.mp hr with hr | hr
    · exact lines_sorted S M r hr
    · obtain ⟨c, _, rfl⟩ := List.mem_map.mp hr
      exact col_sorted S M c
  refine seg8 (by (first | lia | omega)) (by (first | lia | omega)) G8 hS fs cs fg hrl hr3 cg hsrt F fun g9 l9 h9 tk9 t9 G9 k9 ln9 lsp9 F => ?_
  replace fn := fn.keeps k9
  replace fs := fs.keeps k9
  replace cs := cs.keeps k9
  replace fb := fb.keeps k9
  replace cb := cb.keeps k9
  replace fd := fd.keeps k9
  replace cD := cD.keeps k9
  replace fg := fg.keeps k9
  replace cg := cg.keeps k9
  replace fl := fl.keeps k9
  replace cl := cl.keeps k9
  replace ln := ln9 _ ln
  replace lsp := lsp9 _ lsp
  clear ln9 lsp9
  refine seg9 (by (first | lia | omega)) (by (first | lia | omega)) G9 hS fs cs fd cD hd24 F fun ga1 l10 h10 tk10 ua t10 G10 k10 ln10 lsp10 lu fu F => ?_
  replace fn := fn.keeps k10
  replace fs := fs.keeps k10
  replace cs := cs.keeps k10
  replace fb := fb.keeps k10
  replace cb := cb.keeps k10
  replace fg := fg.keeps k10
  replace cg := cg.keeps k10
  replace fl := fl.keeps k10
  replace cl := cl.keeps k10
  replace ln := ln10 _ ln
  replace lsp := lsp10 _ lsp
  clear ln10 lsp10
  rw [due_eq] at T
  have hdp : (dueL (sh ss) (fun r c => drawn.count (r, c)) ss.length).Perm drawn := by
    rw [← due_eq]
    exact (List.reverse_perm _).trans hpm
  obtain ⟨uvs, un0, eu, ru⟩ := fu
  refine seg10 (by (first | lia | omega)) (by (first | lia | omega)) G10 hS fs cs fg cg T (by rw [hdp.length_eq]; (first | lia | omega)) (fun p hp => hd3 p (hdp.mem_iff.mp hp)) eu ru lu F fun g11 l11 h11 tk11 t11 G11 k11 ln11 lsp11 F => ?_
  replace fn := fn.keeps k11
  replace fs := fs.keeps k11
  replace cs := cs.keeps k11
  replace fb := fb.keeps k11
  replace cb := cb.keeps k11
  replace fl := fl.keeps k11
  replace cl := cl.keeps k11
  replace ln := ln11 _ ln
  replace lsp := lsp11 _ lsp
  clear ln11 lsp11
  refine seg11 (by (first | lia | omega)) (by (first | lia | omega)) G11 hS fs cs fn hn60 ln F fun g12 l12 h12 tk12 t12 G12 k12 ln12 lsp12 F => ?_
  replace fb := fb.keeps k12
  replace cb := cb.keeps k12
  replace fl := fl.keeps k12
  replace cl := cl.keeps k12
  replace lsp := lsp12 _ lsp
  have hsp : ((ns.take 60).sum).natAbs < 2 ^ (K + 6) := by
    have h1 := sum_bound (ns.take 60) fun i hi => hb i (List.mem_of_mem_take hi)
    have h2 : (ns.take 60).length * 2 ^ K ≤ 60 * 2 ^ K := Nat.mul_le_mul_right _ hn60
    have h3 : 2 ^ (K + 6) = 64 * 2 ^ K := by rw [Nat.pow_add, Nat.mul_comm]
    have h4 := Nat.two_pow_pos K
    rw [h3]
    generalize 2 ^ K = b at *
    (first | lia | omega)
  refine seg12 (by (first | lia | omega)) (by (first | lia | omega)) G12 hS fb cb fl cl lsp (by (first | lia | omega)) (by (first | lia | omega)) hsp F fun h' tk' kk e1 e2 => ?_
  try walk_at "gK"
  exact H h' tk' (fun b o e => kk _ _ (k12 _ _ (k11 _ _ (k10 _ _ (k9 _ _ (k8 _ _ (k7 _ _ (k6 _ _ (k5 _ _ (k4 _ _ (k3 _ _ (k2 _ _ (k1 _ _ e))))))))))))) e1 e2
end
theorem fm_of {g h : Heap} {L : Addr} {m : Str → Option Value} {l : List (Str × Value)} {N : Ld} (F : Fr g L h m) (hm : m = lk l) (X : News g L h N) (nd : (N.map (·.1)).Nodup) : Fm g L l N h :=
  ⟨hm ▸ F.ns, F.keep, Heap.get?_none_of_le F.above, fun q hq => ⟨(X q hq).1, (X q hq).2.1, (X q hq).2.2⟩, nd⟩
theorem nd8 (n : Nat) (h1 : 117 < n) (h2 : 110 < n) : ([n + 6, n + 5, n + 4, n + 3, n + 2, n + 1, 117, 110] : List Nat).Nodup := by
  simp
  (first | lia | omega)
theorem law_pack {w : World} {loose : List Str} {mean : ExcName → Option Value} {mg mb : Str → Option Value} {g h₁ : Heap} {s₁ : Shared} {tk₁ : Nat} {L fa : Addr} {cd : Value} {ax : Addr} {vs : List Value} {ns : List Int} {m : Str → Option Value} {o1 o2 o3 o4 o5 o6 : Obj} {dp un : Nat} {fr : Option (List Env)} {gd : Option (List Code)} {Q : Flow → Shared → Prop} {E : Value → Shared → Prop}
    (X : (hd.heap_1 w.params).In g) (T : Top topProg loose mean mg mb g) (F : Fr g L h₁ m) (hm : m = lk [("script", .ref ax)]) (N : News g L h₁ [(L + 1 + 1 + 1 + 1 + 1 + 1, o6), (L + 1 + 1 + 1 + 1 + 1, o5), (L + 1 + 1 + 1 + 1, o4), (L + 1 + 1 + 1, o3), (L + 1 + 1, o2), (L + 1, o1), (117, tabObj #[]), (110, tabObj #[])])
    (hi : IntsAre vs ns) (hL : (PyData.list (ns.map PyData.int)).layable0 = true) (LI : g.IsList ax vs.toArray) (C1 : CodeHd g 114 110) (C2 : CodeHd g 121 117) (hlen : ns.length ≤ 63) (d1 : IsCell o1) (d2 : IsCell o2) (d3 : IsCell o3) (d4 : IsCell o4) (d5 : IsCell o5) (d6 : IsCell o6)
    (hl0 : 117 < L ∧ 110 < L) (hd : dp + 100 < recursionLimit) (hu : un + 700 < cLine)
    (K : ∀ h' tk', Kp g h' → (∃ ps, h'.get? 110 = some (tabObj ps)) → (∃ ps, h'.get? 117 = some (tabObj ps)) → Q (.ret (.bool true)) (St s₁ h' tk')) :
    wpAny (model MP w) (Ar dp un fr gd) (execs ((lawB w.params).drop 0) (lawE w.params L fa cd)) Q E { s₁ with heap := h₁, toks := tk₁ } := by
  obtain ⟨so, e, hc, n, hdt⟩ := LI
  obtain ⟨Kb, hK, hb⟩ := item_bound hL
  have Fm1 : Fm g L [("script", .ref ax)] ([(L + 6, o6), (L + 5, o5), (L + 4, o4), (L + 3, o3), (L + 2, o2), (L + 1, o1)] ++ tabs0) h₁ := fm_of F hm N (nd8 L hl0.1 hl0.2)
  refine wpAny_mono (law_walk (Q := Q) hd hu ⟨X, T, C1, C2⟩ Fm1 d1 d2 d3 d4 d5 d6 e ⟨hc, n, hdt⟩ hi hlen hK hb K) (fun _ _ q => q) (fun _ _ q => q.elim)
section
local macro_rules | `(tactic| k_qdec) => `(tactic| decide +kernel)
theorem law_close : PySem.Challenge.rw_wc0024_01.Holds := hd (by
  k_go0
  have XX := ‹(Mine.hd.heap_1 _).In (ghostOf _ _)›
  have TT := ‹Top topProg _ _ _ _ (ghostOf _ _)›
  have FF := ‹Fr (ghostOf _ _) _ _ _›
  have NN := ‹News (ghostOf _ _) _ _ _›
  have HI := ‹IntsAre _ _›
  have HG := ‹Shared.gens _ = #[]›
  have HL := ‹(PyData.list (List.map PyData.int _)).layable0 = true›
  have LI := ‹(ghostOf _ _).IsList _ _›
  have C1 := ‹CodeHd (ghostOf _ _) (114, 110).1 (114, 110).2›
  have C2 := ‹CodeHd (ghostOf _ _) (121, 117).1 (121, 117).2›
  have L0 := ‹117 < _ ∧ 110 < _›
  refine law_pack XX TT FF (bindL_of (by rfl)) NN HI HL LI C1 C2 (by (first | lia | omega)) ⟨_, by assumption⟩ ⟨_, by assumption⟩ ⟨_, by assumption⟩ ⟨_, by assumption⟩ ⟨_, by assumption⟩ ⟨_, by assumption⟩ L0 (by decide) (by decide) fun h' tk' kp e1 e2 => ?_
  refine ⟨⟨.inl ⟨.bool true, .bool true, [], rfl, fun _ => rfl, .bool true, ?_, fun _ => ⟨List.nodup_nil, (fun _ h => nomatch h)⟩⟩, kp, rfl, HG⟩, e2, e1, trivial⟩
  kc_post)
end
end Mine
theorem PySem.Challenge.cw_wc0024_01_holds : PySem.Challenge.rw_wc0024_01.Holds := by
  exact Mine.law_close
