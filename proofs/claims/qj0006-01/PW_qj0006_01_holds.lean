import PyProof.Rows.All
import Wide.All
import OpenK.AllK
import Wide.FinOn
import PySem.Challenge.RW_qj0006_01
set_option Elab.async false
set_option compiler.extract_closed false
set_option maxRecDepth 100000
set_option maxHeartbeats 8000000
namespace Mine
open PySem PySem.W PyProof.Rows
open_top hd for PySem.Challenge.rw_qj0006_01
end Mine

set_option Elab.async false
set_option maxRecDepth 100000
set_option maxHeartbeats 4000000
set_option autoImplicit false
set_option linter.unusedVariables false
namespace Mine
open PySem PySem.W PySem.Calls PyProof.Rows

/-! heaps that keep -/
noncomputable def Kp (g h : Heap) : Prop := ∀ b o, g.get? b = some o → h.get? b = some o
theorem Kp.rf {h : Heap} : Kp h h := fun _ _ e => e
theorem Kp.tr {a b c : Heap} (x : Kp a b) (y : Kp b c) : Kp a c := fun p o e => y p o (x p o e)
noncomputable def KpB (a : Addr) (g h : Heap) : Prop := ∀ b o, b ≠ a → g.get? b = some o → h.get? b = some o
theorem KpB.rf {a : Addr} {h : Heap} : KpB a h h := fun _ _ _ e => e
theorem KpB.tr {x : Addr} {a b c : Heap} (p : KpB x a b) (q : KpB x b c) : KpB x a c := fun d o n e => q d o n (p d o n e)
theorem Kp.b {a : Addr} {g h : Heap} (x : Kp g h) : KpB a g h := fun b o _ e => x b o e
theorem KpB.of_same {a : Addr} {h h' : Heap} (x : Heap.SameBut a h h') : KpB a h h' := fun b o n e => (x.2 b n).trans e
theorem Kp.hide {g h : Heap} {a : Addr} (x : Kp g h) (n : g.get? a = none) : Kp g (h.hide a) := fun b o e =>
  (Heap.hide_ne h (fun q : b = a => by rw [q, n] at e; cases e)).trans (x b o e)
theorem Kp.of_hide {h : Heap} {a : Addr} : Kp (h.hide a) h := fun _ _ e => Heap.of_hide e
theorem KpB.of_hide {h h' : Heap} {a : Addr} (x : Kp (h.hide a) h') : KpB a h h' := fun b o n e => x b o ((Heap.hide_ne h n).trans e)
theorem KpB.kp {a : Addr} {g h h' : Heap} (x : KpB a h h') (k : Kp g h) (n : g.get? a = none) : Kp g h' := fun b o e =>
  x b o (fun q => by rw [q, n] at e; cases e) (k b o e)

/-! locals by place -/
noncomputable def lk : List Str → List (Option Value) → Str → Option Value
  | n :: ns, v :: vs, x => if x = n then v else lk ns vs x
  | _, _, _ => none
inductive At : List Str → List (Option Value) → Str → Value → Prop
  | hd {n ns v vs} : At (n :: ns) (some v :: vs) n v
  | tl {n ns o vs x v} : At ns vs x v → At (n :: ns) (o :: vs) x v
inductive Put : List Str → List (Option Value) → Str → Value → List (Option Value) → Prop
  | hd {n ns o v vs} : Put (n :: ns) (o :: vs) n v (some v :: vs)
  | tl {n ns o vs x v vs'} : Put ns vs x v vs' → Put (n :: ns) (o :: vs) x v (o :: vs')
theorem At.mem {ns vs x v} (a : At ns vs x v) : x ∈ ns := by
  induction a with
  | hd => exact List.mem_cons_self
  | tl _ ih => exact List.mem_cons_of_mem _ ih
theorem Put.mem {ns vs x v vs'} (a : Put ns vs x v vs') : x ∈ ns := by
  induction a with
  | hd => exact List.mem_cons_self
  | tl _ ih => exact List.mem_cons_of_mem _ ih
theorem At.lk {ns vs x v} (a : At ns vs x v) (d : ns.Nodup) : lk ns vs x = some v := by
  induction a with
  | hd => simp [Mine.lk]
  | @tl n ns o vs x v a ih =>
    have h := List.nodup_cons.mp d
    have : x ≠ n := fun e => h.1 (e ▸ a.mem)
    simp only [Mine.lk, this, if_false]
    exact ih h.2
theorem Put.lk {ns vs x v vs'} (a : Put ns vs x v vs') (d : ns.Nodup) : (fun y => if y = x then some v else Mine.lk ns vs y) = Mine.lk ns vs' := by
  induction a with
  | hd =>
    funext y
    simp only [Mine.lk]
    split <;> rfl
  | @tl n ns o vs x v vs' a ih =>
    have h := List.nodup_cons.mp d
    have ne : x ≠ n := fun e => h.1 (e ▸ a.mem)
    have ih := ih h.2
    funext y
    simp only [Mine.lk]
    by_cases hy : y = x
    · subst hy
      rw [if_pos rfl, if_neg ne, ← ih]; simp
    · rw [if_neg hy, ← ih]; simp [hy]

structure En (env : Env) (ns gs : List Str) : Prop where
  kind : env.scope.kind = .function
  loc : ∀ x ∈ ns, env.kindOf x = some .local ∧ (x == ("__debug__" : Str)) = false
  glo : ∀ x ∈ gs, env.kindOf x = some .globalImplicit ∧ (x == ("__debug__" : Str)) = false
  dup : ns.Nodup
  gl : env.globals = mainGlobals
  bl : env.builtins = builtinsNs
noncomputable def scOk (sc : Scope) (ns gs : List Str) : Bool := sc.kind == .function && (ns.all fun x => sc.names.lookup x == some .local && !(x == ("__debug__" : Str))) &&
  (gs.all fun x => sc.names.lookup x == some .globalImplicit && !(x == ("__debug__" : Str))) && decide ns.Nodup
theorem En.of {env : Env} {ns gs : List Str} (h : scOk env.scope ns gs = true) (gl : env.globals = mainGlobals) (bl : env.builtins = builtinsNs) : En env ns gs := by
  simp only [scOk, Bool.and_eq_true, List.all_eq_true, beq_iff_eq, Bool.not_eq_true', decide_eq_true_eq] at h
  exact ⟨h.1.1.1, h.1.1.2, h.1.2, h.2, gl, bl⟩

noncomputable abbrev Nw := List (Addr × (Obj → Prop))
noncomputable abbrev lo (vs : List Value) (n : Nat) : Obj := { cls := .type "list", dict := none, data := .seq vs.toArray n, slots := #[] }
noncomputable def isL (vs : List Value) : Obj → Prop := fun o => ∃ n, o = lo vs n
noncomputable abbrev Hl (h : Heap) (a : Addr) (vs : List Value) : Prop := ∃ o, h.get? a = some o ∧ isL vs o
noncomputable def isO (o : Obj) : Obj → Prop := fun x => x = o
theorem Hl.is {h : Heap} {a : Addr} {vs : List Value} (x : Hl h a vs) : h.IsList a vs.toArray := by
  obtain ⟨o, e, n, rfl⟩ := x
  exact ⟨_, e, rfl, n, rfl⟩
theorem Hl.kp {g h : Heap} {a : Addr} {vs : List Value} (x : Hl g a vs) (k : Kp g h) : Hl h a vs := let ⟨o, e, r⟩ := x; ⟨o, k _ _ e, r⟩
theorem Hl.upd {h : Heap} {a : Addr} {vs vs' : List Value} {f : Array Value → Array Value} (x : Hl h a vs) (e : f vs.toArray = vs'.toArray) : KpB a h (h.update a (Obj.mapSeq f)) ∧ Hl (h.update a (Obj.mapSeq f)) a vs' := by
  obtain ⟨o, g, n, rfl⟩ := x
  have q := IsL.update (show IsL h a vs.toArray n from g) f
  rw [e] at q
  exact ⟨KpB.of_same (Heap.SameBut.update ..), _, q, _, rfl⟩

structure Sx (g : Heap) (L : Addr) (h : Heap) (ns : List Str) (vs : List (Option Value)) (nw : Nw) : Prop where
  loc : h.Ns L (lk ns vs)
  keep : Kp g h
  noL : g.get? L = none
  news : ∀ p ∈ nw, (∃ o, h.get? p.1 = some o ∧ p.2 o) ∧ p.1 ≠ L ∧ g.get? p.1 = none
  nd : (nw.map (·.1)).Nodup

inductive Ch (a : Addr) (P P' : Obj → Prop) : Nw → Nw → Prop
  | hd {r} : Ch a P P' ((a, P) :: r) ((a, P') :: r)
  | tl {p r r'} : Ch a P P' r r' → Ch a P P' (p :: r) (p :: r')
theorem Ch.mem {a P P' r r'} (c : Ch a P P' r r') : (a, P) ∈ r := by
  induction c with
  | hd => exact List.mem_cons_self
  | tl _ ih => exact List.mem_cons_of_mem _ ih
theorem Ch.keys {a P P' r r'} (c : Ch a P P' r r') : r'.map (·.1) = r.map (·.1) := by
  induction c with
  | hd => rfl
  | tl _ ih => simp [ih]
theorem Ch.back {a P P' r r'} (c : Ch a P P' r r') (d : (r.map (·.1)).Nodup) : ∀ p ∈ r', (p ∈ r ∧ p.1 ≠ a) ∨ p = (a, P') := by
  induction c with
  | hd =>
    intro p hp
    rcases List.mem_cons.mp hp with rfl | hp
    · exact .inr rfl
    · refine .inl ⟨List.mem_cons_of_mem _ hp, fun e => ?_⟩
      refine (List.nodup_cons.mp d).1 ?_
      show a ∈ _
      rw [← e]; exact List.mem_map_of_mem (f := fun x : Addr × (Obj → Prop) => x.1) hp
  | @tl q r r' c ih =>
    have d' := List.nodup_cons.mp d
    intro p hp
    rcases List.mem_cons.mp hp with rfl | hp
    · refine .inl ⟨List.mem_cons_self, fun e => d'.1 ?_⟩
      show p.1 ∈ _
      rw [e]; exact List.mem_map_of_mem (f := fun x : Addr × (Obj → Prop) => x.1) c.mem
    · rcases ih d'.2 p hp with h | h
      · exact .inl ⟨List.mem_cons_of_mem _ h.1, h.2⟩
      · exact .inr h

section
variable {g h h' : Heap} {L : Addr} {ns : List Str} {vs vs' : List (Option Value)} {nw nw' : Nw}
theorem ns_kp {h h' : Heap} {a : Addr} {m} (x : h.Ns a m) (k : ∀ o, h.get? a = some o → h'.get? a = some o) : h'.Ns a m :=
  by obtain ⟨o, es, ep, e, r⟩ := x; exact ⟨o, es, ep, k _ e, r⟩
theorem Sx.call (F : Sx g L h ns vs nw) (k : Kp h h') : Sx g L h' ns vs nw :=
  ⟨ns_kp F.loc (fun o e => k _ o e), F.keep.tr k, F.noL, fun p hp => by obtain ⟨⟨o, e, q⟩, r⟩ := F.news p hp; exact ⟨⟨o, k _ _ e, q⟩, r⟩, F.nd⟩
theorem Sx.set {x : Str} {v : Value} (F : Sx g L h ns vs nw) (d : ns.Nodup) (P : Put ns vs x v vs') (hn : h'.Ns L (fun y => if y = x then some v else lk ns vs y)) (hs : Heap.SameBut L h h') : Sx g L h' ns vs' nw :=
  ⟨P.lk d ▸ hn, fun b o e => (hs.2 b (fun q => by rw [q, F.noL] at e; cases e)).trans (F.keep b o e), F.noL,
    fun p hp => let ⟨⟨o, e, q⟩, r⟩ := F.news p hp; ⟨⟨o, (hs.2 p.1 r.1).trans e, q⟩, r⟩, F.nd⟩
theorem Sx.push (F : Sx g L h ns vs nw) (o : Obj) {P : Obj → Prop} (hP : P o) (hf : o.isFreed = false) : Sx g L (h.push o) ns vs ((h.objs.size, P) :: nw) := by
  have k : Kp h (h.push o) := fun b o' e => Heap.get?_push_of_some _ e
  obtain ⟨oL, es, ep, hL, r⟩ := F.loc
  refine ⟨⟨oL, es, ep, k _ _ hL, r⟩, F.keep.tr k, F.noL, fun p hp => ?_, ?_⟩
  · rcases List.mem_cons.mp hp with rfl | hp
    · refine ⟨⟨o, Heap.get?_push_size _ hf, hP⟩, fun e => ?_, ?_⟩
      · have q := Heap.lt_size hL
        rw [← (show h.objs.size = L from e)] at q
        exact Nat.lt_irrefl _ q
      · cases q : g.get? h.objs.size with
        | none => rfl
        | some o' => exact absurd (Heap.lt_size (F.keep _ _ q)) (Nat.lt_irrefl _)
    · obtain ⟨⟨o', e, q⟩, r⟩ := F.news p hp
      exact ⟨⟨o', k _ _ e, q⟩, r⟩
  · rw [List.map_cons]
    refine List.nodup_cons.mpr ⟨fun hm => ?_, F.nd⟩
    obtain ⟨p, hp, e⟩ := List.mem_map.mp hm
    obtain ⟨⟨o', e', _⟩, _⟩ := F.news p hp
    have q := Heap.lt_size e'
    rw [show p.1 = h.objs.size from e] at q
    exact Nat.lt_irrefl _ q
theorem Sx.mut {a : Addr} {P P' : Obj → Prop} (F : Sx g L h ns vs nw) (k : KpB a h h') (hP : ∃ o, h'.get? a = some o ∧ P' o) (c : Ch a P P' nw nw' := by walk_at "ch") : Sx g L h' ns vs nw' := by
  have m := F.news _ c.mem
  refine ⟨ns_kp F.loc (fun o e => k _ o (Ne.symm m.2.1) e), k.kp F.keep m.2.2, F.noL, fun p hp => ?_, by rw [c.keys]; exact F.nd⟩
  rcases c.back F.nd p hp with ⟨q, n⟩ | rfl
  · obtain ⟨⟨o, e, r⟩, t⟩ := F.news p q
    exact ⟨⟨o, k _ _ n e, r⟩, t⟩
  · exact ⟨hP, m.2⟩
theorem Sx.drop {p} (F : Sx g L h ns vs (p :: nw)) : Sx g L h ns vs nw :=
  ⟨F.loc, F.keep, F.noL, fun q hq => F.news q (List.mem_cons_of_mem _ hq), (List.nodup_cons.mp F.nd).2⟩
theorem Sx.pick (F : Sx g L h ns vs nw) (sub : ∀ p ∈ nw', p ∈ nw) (nd : (nw'.map (·.1)).Nodup) : Sx g L h ns vs nw' := ⟨F.loc, F.keep, F.noL, fun q hq => F.news q (sub q hq), nd⟩
theorem Sx.isl {a : Addr} {its : List Value} (F : Sx g L h ns vs nw) (m : (a, isL its) ∈ nw := by walk_at "mem") : Hl h a its := (F.news _ m).1
theorem Sx.lt {a : Addr} {P} (F : Sx g L h ns vs nw) (m : (a, P) ∈ nw) : g.get? a = none := (F.news _ m).2.2
end

section
variable {M : Model} {A : Around} {E : Value → Shared → Prop} {s : Shared} {env : Env} {g : Heap} {ns gs : List Str} {vs vs' : List (Option Value)} {nw nw' : Nw}
theorem ld {x : Str} {pos : Pos} {v : Value} {Q : Value → Shared → Prop} (F : Sx g env.locals s.heap ns vs nw) (C : En env ns gs) (a : At ns vs x v) (h : Q v s) :
    wpAny M A (eval (.Name x pos) env) Q E s :=
  wpAny_Name (wpAny_loadName_local C.kind (C.loc x a.mem).1 F.loc (a.lk C.dup) h) (C.loc x a.mem).2
theorem ldn {x : Str} {v : Value} {Q : Value → Shared → Prop} (F : Sx g env.locals s.heap ns vs nw) (C : En env ns gs) (a : At ns vs x v) (h : Q v s) :
    wpAny M A (loadName env x) Q E s := wpAny_loadName_local C.kind (C.loc x a.mem).1 F.loc (a.lk C.dup) h
theorem st {sH : Heap} {sG : Array GenState} {sD : Drawn} {sT : Nat} {sO : OsState} {x : Str} {v : Value} {Q : Unit → Shared → Prop} (F : Sx g env.locals sH ns vs nw) (C : En env ns gs)
    (h : ∀ h' t, Sx g env.locals h' ns vs' nw → Q () ⟨h', sG, sD, t, sO⟩) (P : Put ns vs x v vs' := by walk_at "put") : wpAny M A (storeName env x v) Q E ⟨sH, sG, sD, sT, sO⟩ :=
  wpAny_storeName_local (C.loc x P.mem).1 F.loc (fun h' hn hs => h h' _ (F.set C.dup P hn hs)) (by rw [C.kind]; rfl)

theorem xpr {e : PySem.Expr} {pos : Pos} {Q : Flow → Shared → Prop} (C : En env ns gs) (h : wpAny M A (eval e env) (fun v s' => match v with | .ref _ => False | _ => Q .next s') E s)
    (hs : swapsWith e none pos.line env = pure false := by rfl) : wpAny M A (exec (.Expr e pos) env) Q E s := wpAny_Expr h (by unfold interactive; rw [C.kind]; rfl) hs
noncomputable def GlobAt (g : Heap) (x : Str) (v : Value) : Prop :=
  (∃ mg, g.Ns mainGlobals mg ∧ mg x = some v) ∨ ∃ mg mb, g.Ns mainGlobals mg ∧ mg x = none ∧ g.Ns builtinsNs mb ∧ mb x = some v
theorem gl {x : Str} {pos : Pos} {v : Value} {Q : Value → Shared → Prop} (k : Kp g s.heap) (C : En env ns gs) (G : GlobAt g x v) (h : Q v s) (m : x ∈ gs := by walk_at "mem") :
    wpAny M A (eval (.Name x pos) env) Q E s := by
  refine Name_function_global C.kind (C.glo x m).1 ?_ (C.glo x m).2
  rcases G with ⟨mg, n, e⟩ | ⟨mg, mb, n, e, n', e'⟩
  · exact loadGlobal_global (mg := mg) (by rw [C.gl]; exact n.keeps k) e h
  · exact loadGlobal_builtin (mg := mg) (mb := mb) (by rw [C.gl]; exact n.keeps k) e (by rw [C.bl]; exact n'.keeps k) e' h
end

section
variable {prog : Program} {w : World} {A : Around} {E : Value → Shared → Prop} {s : Shared} {env : Env} {a : Addr} {vs : List Value}
theorem len_l {sH : Heap} {sG : Array GenState} {sD : Drawn} {sT : Nat} {sO : OsState} {Q : Value → Shared → Prop} (hl : Hl sH a vs) (hb : vs.length ≤ 16777216) (h : ∀ t u, Q (.int vs.length t) ⟨sH, sG, sD, u, sO⟩) : wpAny (model prog w) A (call (.builtin "len") [.ref a]) Q E ⟨sH, sG, sD, sT, sO⟩ :=
  len_list hl.is (by rw [List.size_toArray]; omega) (by rw [List.size_toArray]; exact h _ _)
theorem item {value slice : PySem.Expr} {k : Int} {u : Tok} {v : Value} {Q : Value → Shared → Prop}
    (hl : Hl s.heap a vs) (h0 : 0 ≤ k) (hhi : k < 2 ^ 63) (hx : vs[k.toNat]? = some v) (h : Q v s)
    (hs : subscripted slice false (.ref a) (.int k u) = operate [.ref a, .int k u] (getItem (.ref a) (.int k u)) := by with_unfolding_all rfl) :
    wpAny (model prog w) A (subscriptTail value slice (.ref a) (.int k u)) Q E s :=
  tail_any hl.is.typeIs slot_list_getitem.lookup (wpAny_getItem_list hl.is h0 hhi (by simpa using hx) h) hs
theorem seti {sH : Heap} {sG : Array GenState} {sD : Drawn} {sT : Nat} {sO : OsState} {k : Int} {t : Tok} {v : Value} {Q : Unit → Shared → Prop} (hl : Hl sH a vs) (h0 : 0 ≤ k) (hfit : k < 2 ^ 63) (hn : k < vs.length)
    (hQ : ∀ h', KpB a sH h' → Hl h' a (vs.set k.toNat v) → Q () ⟨h', sG, sD, sT, sO⟩) : wpAny (model prog w) A (setItem (.ref a) (.int k t) v) Q E ⟨sH, sG, sD, sT, sO⟩ := by
  have u := hl.upd (f := fun x => x.setIfInBounds k.toNat v) (vs' := vs.set k.toNat v) (by simp)
  obtain ⟨o, e, n, rfl⟩ := hl
  exact ki_setAt (n := n) (items := vs.toArray) e h0 hfit (by simpa using hn) (hQ _ u.1 u.2)
theorem itemn {value slice : PySem.Expr} {k : Nat} {u : Tok} {v : Value} {Q : Value → Shared → Prop}
    (hl : Hl s.heap a vs) (hhi : k < 16777216) (hx : vs[k]? = some v) (h : Q v s)
    (hs : subscripted slice false (.ref a) (.int k u) = operate [.ref a, .int k u] (getItem (.ref a) (.int k u)) := by with_unfolding_all rfl) :
    wpAny (model prog w) A (subscriptTail value slice (.ref a) (.int k u)) Q E s := item hl (by omega) (by omega) hx h hs
theorem setn {sH : Heap} {sG : Array GenState} {sD : Drawn} {sT : Nat} {sO : OsState} {k : Nat} {t : Tok} {v : Value} {Q : Unit → Shared → Prop} (hl : Hl sH a vs) (hfit : k < 16777216) (hn : k < vs.length)
    (hQ : ∀ h', KpB a sH h' → Hl h' a (vs.set k v) → Q () ⟨h', sG, sD, sT, sO⟩) : wpAny (model prog w) A (setItem (.ref a) (.int k t) v) Q E ⟨sH, sG, sD, sT, sO⟩ :=
  seti hl (by omega) (by omega) (by omega) hQ
theorem onL {name : Str} {id : String} {trees : List (Bool × Sem Value)} {pos : Pos} {Q : Value → Shared → Prop} (hl : Hl s.heap a vs) (slot : Slot "list" name id) (hty : typeOf (.builtin id) = pure (.type "method_descriptor"))
    (h : wpAny (model prog w) A (callWith pos (.builtin id) [.ref a] trees []) Q E s) : MethodOnS prog w A E name (.ref a) pos trees Q s := by
  obtain ⟨o, e, n, rfl⟩ := hl
  exact ⟨"list", id, PySem.F.plainAttrs_list, slot, hty, ⟨_, e, rfl⟩, (fun a' q => by cases q; exact ⟨_, e, rfl⟩), h⟩
theorem c_append {o e : PySem.Expr} {apos pos : Pos} {Q : Value → Shared → Prop}
    (h : wpAny (model prog w) A (eval o env) (fun ov s₁ => ∃ a vs₀, ov = .ref a ∧ Hl s₁.heap a vs₀ ∧ wpAny (model prog w) A (eval e env) (fun v s₂ => ∃ vs, Hl s₂.heap a vs ∧ vs.length ≤ sizeLine ∧
      ∀ h', KpB a s₂.heap h' → Hl h' a (vs ++ [v]) → Q .none { s₂ with heap := h' }) E s₁) E s)
    (hbase : attributeBase o "append" env (eval o env) = eval o env := by rfl) (hs : starEach [e] env = [(false, eval e env)] := by rfl) (hline : (apos.endLine == pos.line) = true := by rfl) :
    wpAny (model prog w) A (eval (.Call (.Attribute o "append" apos) [e] [] pos) env) Q E s := by
  refine Call_method1 hbase hs hline (wpAny_mono h (fun ov s₁ h₁ => ?_) fun _ _ x => x)
  obtain ⟨a, vs₀, rfl, hl, h₂⟩ := h₁
  refine onL hl PySem.F.slot_list_append type_list_append (P.append_list (wpAny_mono h₂ (fun v s₂ h₃ => ?_) fun _ _ x => x))
  obtain ⟨vs, hl, hz, hq⟩ := h₃
  have u := hl.upd (f := fun x => x.push v) (vs' := vs ++ [v]) (by simp)
  obtain ⟨o, e, n, rfl⟩ := hl
  exact ⟨vs.toArray, n, by simpa using hz, e, hq _ u.1 u.2⟩
theorem c_pop {o : PySem.Expr} {apos pos : Pos} {Q : Value → Shared → Prop}
    (h : wpAny (model prog w) A (eval o env) (fun ov s₁ => ∃ a vs v, ov = .ref a ∧ Hl s₁.heap a (vs ++ [v]) ∧ vs.length < sizeLine ∧
      ∀ h', KpB a s₁.heap h' → Hl h' a vs → Q v { s₁ with heap := h' }) E s)
    (hbase : attributeBase o "pop" env (eval o env) = eval o env := by rfl) (hline : (apos.endLine == pos.line) = true := by rfl) :
    wpAny (model prog w) A (eval (.Call (.Attribute o "pop" apos) [] [] pos) env) Q E s := by
  refine Call_method0 hbase hline (wpAny_mono h (fun ov s₁ h₁ => ?_) fun _ _ x => x)
  obtain ⟨a, vs, v, rfl, hl, hz, hq⟩ := h₁
  have hk : (vs ++ [v]).toArray.size - 1 = vs.length := by rw [List.size_toArray, List.length_append]; rfl
  have u := hl.upd (f := fun x => x.eraseIdxIfInBounds ((vs ++ [v]).toArray.size - 1)) (vs' := vs) (by rw [hk]; simpa using kl_erase vs [] v)
  refine onL hl PySem.F.slot_list_pop (by with_unfolding_all rfl) ?_
  obtain ⟨o, e, n, rfl⟩ := hl
  exact P.pop_list e (by rw [hk]; simp) (hq _ u.1 u.2) (by rw [List.size_toArray, List.length_append]; exact hz)
end

noncomputable abbrev KK : Params → Frag := hd.heap_39
structure Gk (w : World) (g : Heap) : Prop where
  K : (KK w.params).In g
  b : ∃ mb, g.Ns builtinsNs mb ∧ ∀ x : Str, x ≠ "__name__" → mb x = bootBuiltins x
theorem Gk.kp {w : World} {g h : Heap} (G : Gk w g) (k : Kp g h) : Gk w h :=
  ⟨G.K.keeps k, let ⟨mb, n, e⟩ := G.b; ⟨mb, n.keeps k, e⟩⟩
theorem KK_two (P : Params) : (KK P).lookup 2 = some { cls := .none, data := .dict #[] } := by with_unfolding_all rfl
theorem strKeys_of {l : List DictEntry} (h : (l.all fun e => match e.key with | .str _ _ => true | _ => false) = true) : StrKeys l.toArray := fun e he => by
  have := List.all_eq_true.mp h e (by simpa using he)
  revert this
  cases e.key <;> intro q <;> first | exact ⟨_, _, rfl⟩ | cases q
theorem KK_three (P : Params) : ∃ es n, (KK P).lookup 3 = some { cls := .type "dict", data := .dict es n } ∧ StrKeys es := by
  exact ⟨_, _, by with_unfolding_all rfl, strKeys_of (by rfl)⟩
theorem Gk.mg {w : World} {g : Heap} (G : Gk w g) : ∃ mg, g.Ns mainGlobals mg := by
  obtain ⟨es, n, e, k⟩ := KK_three w.params
  exact ⟨_, _, es, n, G.K _ _ e, rfl, k, fun _ => rfl⟩
theorem Gk.nolimit {w : World} {g : Heap} (G : Gk w g) : g.NoLimit :=
  ⟨fun _ => none, ⟨_, #[], 0, G.K _ _ (KK_two _), rfl, fun _ he => by simp at he, fun _ => rfl⟩, rfl⟩
theorem Gk.own {w : World} {g : Heap} {x : Str} {v : Value} (G : Gk w g) (e : nsIn (KK w.params) mainGlobals x = some (some v)) : GlobAt g x v :=
  let ⟨mg, n⟩ := G.mg; .inl ⟨mg, n, mg_of G.K n e⟩
theorem Gk.blt {w : World} {g : Heap} {x : Str} {v : Value} (G : Gk w g) (e : nsIn (KK w.params) mainGlobals x = some none) (hv : bootBuiltins x = some v) (hn : x ≠ "__name__") : GlobAt g x v :=
  let ⟨mg, n⟩ := G.mg; let ⟨mb, n', b⟩ := G.b; .inr ⟨mg, mb, n, mg_none_of G.K n e, n', (b x hn).trans hv⟩

/-! the defs of the text, out of the written part -/
noncomputable def P0 : Params := { strHash := fun _ => 0, shareClass := fun _ => 0, mergeTok := id, idOf := fun _ => 0, idOfShared := fun _ _ => 0, followText := fun _ => false, idOfImm := fun _ => 0 }
noncomputable def fdAt (a : Addr) : FuncData := match (KK P0).lookup a with
  | some ⟨_, _, .func fd, _⟩ => fd
  | _ => default
noncomputable def stmtsOf : FuncBody → List Stmt
  | .stmts b => b
  | _ => []
noncomputable def IsFn (h : Heap) (a : Addr) : Prop := h.get? a = some { cls := .type "function", data := .func (fdAt a) } ∧ h.CodeRec (fdAt a).code (fdAt a).qualname
theorem Gk.fn {w : World} {g : Heap} (G : Gk w g) (a : Addr) (e : (KK w.params).lookup a = some { cls := .type "function", data := .func (fdAt a) })
    (c : codeIn (KK w.params) (fdAt a).code (fdAt a).qualname = true) : IsFn g a := ⟨G.K _ _ e, codeRec_of G.K c⟩
theorem IsFn.kp {g h : Heap} {a : Addr} (x : IsFn g a) (k : Kp g h) : IsFn h a := ⟨k _ _ x.1, x.2.keeps k⟩

/-! ints and texts, the marks of identity forgotten -/
section
variable {prog : Program} {w : World} {A : Around} {E : Value → Shared → Prop} {s : Shared} {env : Env} {a b : Int} {t u : Tok}
theorem k_int {sH : Heap} {sG : Array GenState} {sD : Drawn} {sT : Nat} {sO : OsState} {M : Model} {i k pos} {Q : Value → Shared → Prop} (h : ∀ t u, Q (.int i t) ⟨sH, sG, sD, u, sO⟩) : wpAny M A (eval (.Constant (.int i) k pos) env) Q E ⟨sH, sG, sD, sT, sO⟩ := wpAny_Constant_int (h _ _)
theorem k_str {sH : Heap} {sG : Array GenState} {sD : Drawn} {sT : Nat} {sO : OsState} {M : Model} {i : Str} {k pos} {Q : Value → Shared → Prop} (h : ∀ t u, Q (.str i t) ⟨sH, sG, sD, u, sO⟩) : wpAny M A (eval (.Constant (.str i) k pos) env) Q E ⟨sH, sG, sD, sT, sO⟩ := Constant_str (h _ _)
theorem k_bool {M : Model} {c : Bool} {k pos} {Q : Value → Shared → Prop} (h : Q (.bool c) s) : wpAny M A (eval (.Constant (.bool c) k pos) env) Q E s := fun _ _ _ => h
theorem i_add {sH : Heap} {sG : Array GenState} {sD : Drawn} {sT : Nat} {sO : OsState} {Q : Value → Shared → Prop} (h : ∀ t u, Q (.int (a + b) t) ⟨sH, sG, sD, u, sO⟩) : wpAny (model prog w) A (binaryOp .Add (.int a t) (.int b u)) Q E ⟨sH, sG, sD, sT, sO⟩ := add_int (h _ _)
theorem i_sub {sH : Heap} {sG : Array GenState} {sD : Drawn} {sT : Nat} {sO : OsState} {Q : Value → Shared → Prop} (h : ∀ t u, Q (.int (a - b) t) ⟨sH, sG, sD, u, sO⟩) : wpAny (model prog w) A (binaryOp .Sub (.int a t) (.int b u)) Q E ⟨sH, sG, sD, sT, sO⟩ := sub_int (h _ _)
theorem i_mul {sH : Heap} {sG : Array GenState} {sD : Drawn} {sT : Nat} {sO : OsState} {Q : Value → Shared → Prop} (h : ∀ t u, Q (.int (a * b) t) ⟨sH, sG, sD, u, sO⟩) (hm : IntMulOk a b := by mul_fits) : wpAny (model prog w) A (binaryOp .Mult (.int a t) (.int b u)) Q E ⟨sH, sG, sD, sT, sO⟩ := mul_int (h _ _) hm
theorem i_mod {sH : Heap} {sG : Array GenState} {sD : Drawn} {sT : Nat} {sO : OsState} {Q : Value → Shared → Prop} (hb : b ≠ 0) (h : ∀ t u, Q (.int (a.fmod b) t) ⟨sH, sG, sD, u, sO⟩) : wpAny (model prog w) A (binaryOp .Mod (.int a t) (.int b u)) Q E ⟨sH, sG, sD, sT, sO⟩ := mod_int' hb (h _ _)
theorem i_div {sH : Heap} {sG : Array GenState} {sD : Drawn} {sT : Nat} {sO : OsState} {Q : Value → Shared → Prop} (hb : 0 < b) (hs : b < 1000000) (h : ∀ t u, Q (.int (a.fdiv b) t) ⟨sH, sG, sD, u, sO⟩) : wpAny (model prog w) A (binaryOp .FloorDiv (.int a t) (.int b u)) Q E ⟨sH, sG, sD, sT, sO⟩ :=
  floordiv_int (by omega) (h _ _) (Or.inl (PyProof.noPylong_small (by omega)))
theorem i_shr {sH : Heap} {sG : Array GenState} {sD : Drawn} {sT : Nat} {sO : OsState} {Q : Value → Shared → Prop} (hb : 0 ≤ b) (h : ∀ t u, Q (.int (a.fdiv (2 ^ b.toNat)) t) ⟨sH, sG, sD, u, sO⟩) : wpAny (model prog w) A (binaryOp .RShift (.int a t) (.int b u)) Q E ⟨sH, sG, sD, sT, sO⟩ := rshift_int hb (h _ _)
theorem i_lt {Q : Bool → Shared → Prop} (h : Q (decide (a < b)) s) : wpAny (model prog w) A (compareOp .Lt (.int a t) (.int b u)) (fun c s' => wpAny (model prog w) A (truthy c) Q E s') E s := lt_int (wpAny_truthy_bool h)
theorem i_iadd {sH : Heap} {sG : Array GenState} {sD : Drawn} {sT : Nat} {sO : OsState} {Q : Value → Shared → Prop} (h : ∀ t u, Q (.int (a + b) t) ⟨sH, sG, sD, u, sO⟩) : wpAny (model prog w) A (inplaceOp .Add (.int a t) (.int b u)) Q E ⟨sH, sG, sD, sT, sO⟩ := wpAny_iadd_int (h _ _)
theorem i_idiv {sH : Heap} {sG : Array GenState} {sD : Drawn} {sT : Nat} {sO : OsState} {Q : Value → Shared → Prop} (hb : 0 < b) (hs : b < 1000000) (h : ∀ t u, Q (.int (a.fdiv b) t) ⟨sH, sG, sD, u, sO⟩) : wpAny (model prog w) A (inplaceOp .FloorDiv (.int a t) (.int b u)) Q E ⟨sH, sG, sD, sT, sO⟩ :=
  ifloordiv_int (by omega) (h _ _) (Or.inl (PyProof.noPylong_small (by omega)))
theorem i_eq {Q : Bool → Shared → Prop} (h : Q (decide (a = b)) s) : wpAny (model prog w) A (compareOp .Eq (.int a t) (.int b u)) (fun c s' => wpAny (model prog w) A (truthy c) Q E s') E s := eq_int (wpAny_truthy_bool h)
theorem i_ge {Q : Bool → Shared → Prop} (h : Q (decide (b ≤ a)) s) : wpAny (model prog w) A (compareOp .GtE (.int a t) (.int b u)) (fun c s' => wpAny (model prog w) A (truthy c) Q E s') E s := PyProof.Rows.ge_int (wpAny_truthy_bool h)
theorem i_gt {Q : Bool → Shared → Prop} (h : Q (decide (b < a)) s) : wpAny (model prog w) A (compareOp .Gt (.int a t) (.int b u)) (fun c s' => wpAny (model prog w) A (truthy c) Q E s') E s := gt_int (wpAny_truthy_bool h)
end

theorem lt5 {i : Nat} (h : i < 5) : i < 16777216 := Nat.lt_trans h (by decide)
/-! a statement's end as a meeting point -/
theorem mid {M : Model} {A : Around} {E : Value → Shared → Prop} {s : Shared} {env : Env} {st : Stmt} {rest : List Stmt} {Q : Flow → Shared → Prop} (Mid : Shared → Prop)
    (h1 : wpAny M A (exec st env) (fun f s' => f = .next ∧ Mid s') E s) (h2 : ∀ s', Mid s' → wpAny M A (execs rest env) Q E s') : wpAny M A (execs (st :: rest) env) Q E s :=
  wpAny_execs_cons (wpAny_mono h1 (fun f s' ⟨e, m⟩ => by subst e; exact h2 s' m) fun _ _ e => e)
/-- what is wanted behind, as a name: it keeps the proof's terms small -/
theorem opq {α : Type} {M : Model} {A : Around} {t : Sem α} {Q : α → Shared → Prop} {E : Value → Shared → Prop} {s : Shared} (h : ∀ (Q' : α → Shared → Prop) (E' : Value → Shared → Prop), (∀ a s', Q a s' → Q' a s') → (∀ e s', E e s' → E' e s') → wpAny M A t Q' E' s) : wpAny M A t Q E s :=
  h Q E (fun _ _ x => x) (fun _ _ x => x)
/-! tests -/
section
variable {M : Model} {A : Around} {E : Value → Shared → Prop} {s : Shared} {env : Env}
theorem t_not {x : PySem.Expr} {pos : Pos} {whole : Sem Value} {Q : Bool → Shared → Prop} (h : wpAny M A (isTrue x env (eval x env)) (fun b => Q (!b)) E s) : wpAny M A (isTrue (.UnaryOp .Not x pos) env whole) Q E s := by
  rw [arm_isTrue_UnaryOp]
  exact wpAny_bind (wpAny_mono h (fun _ _ y => wpAny_pure y) fun _ _ y => y)
theorem t_bool {op : BoolOp} {xs : List PySem.Expr} {pos : Pos} {whole : Sem Value} {Q : Bool → Shared → Prop} (h : wpAny M A (allTrue op xs env) Q E s) : wpAny M A (isTrue (.BoolOp op xs pos) env whole) Q E s := h
theorem all_nil {Q : Bool → Shared → Prop} (h : Q true s) : wpAny M A (allTrue .And [] env) Q E s := wpAny_pure h
theorem all_cons {x : PySem.Expr} {rest : List PySem.Expr} {Q : Bool → Shared → Prop} (h : wpAny M A (isTrue x env (eval x env)) (fun b s₁ => if b = true then wpAny M A (allTrue .And rest env) Q E s₁ else Q false s₁) E s) :
    wpAny M A (allTrue .And (x :: rest) env) Q E s := by
  rw [arm_allTrue_cons]
  refine wpAny_bind (wpAny_mono h (fun b s₁ h₁ => ?_) fun _ _ y => y)
  cases b
  · exact wpAny_pure h₁
  · exact h₁
end

/-! calls of the text's defs -/
noncomputable def Ends (s : Shared) (P : Value → Heap → Prop) : Result → Shared → Prop := fun r s' => ∃ v h t, r = .ok (.ret v) ∧ s' = { s with heap := h, toks := t } ∧ P v h
section
variable {prog : Program} {w : World} {A : Around} {E : Value → Shared → Prop} {s : Shared} {env : Env} {g : Heap} {ns gs : List Str}
theorem use {sH : Heap} {sG : Array GenState} {sD : Drawn} {sT : Nat} {sO : OsState} {c : Code} {P : Value → Heap → Prop} {Q : Value → Shared → Prop} (x : codeAny (model prog w) A c (Ends ⟨sH, sG, sD, sT, sO⟩ P) ⟨sH, sG, sD, sT, sO⟩) (h : ∀ v h' t, P v h' → Q v ⟨h', sG, sD, t, sO⟩) :
    codeAny (model prog w) A c (fun r s' => match r with | .ok (.ret v) => Q v s' | .ok _ => False | .error e => E e s') ⟨sH, sG, sD, sT, sO⟩ :=
  codeAny_mono x fun r s' y => by obtain ⟨v, h', t, rfl, rfl, hp⟩ := y; exact h v h' t hp
theorem cdef {x : Str} {f : Addr} {np pos : Pos} {e : PySem.Expr} {rest : List PySem.Expr} {Q : Value → Shared → Prop} (k : Kp g s.heap) (C : En env ns gs) (G : GlobAt g x (.ref f)) (hf : IsFn g f)
    (h : wpAny (model prog w) A (spliced (backTo pos (starEach (e :: rest) env))) (fun vs s₁ => Kp g s₁.heap ∧ codeAny (model prog w) A (.call (.ref f) ⟨vs, []⟩) (fun r s' => match r with | .ok (.ret v) => Q v s' | .ok _ => False | .error e => E e s') s₁) E s)
    (m : x ∈ gs := by walk_at "mem") (he : starEach (e :: rest) env = (false, eval e env) :: starEach rest env := by rfl) :
    wpAny (model prog w) A (eval (.Call (.Name x np) (e :: rest) [] pos) env) Q E s :=
  Call_ (gl k C G (callWith_def (o := { cls := .type "function", data := .func (fdAt f) }) rfl (wpAny_mono h (fun vs s₁ h₁ => ⟨h₁.1 _ _ hf.1, wpAny_call h₁.2⟩) fun _ _ y => y) he) m)
theorem ctyp {x : Str} {T : String} {np pos : Pos} {e : PySem.Expr} {rest : List PySem.Expr} {Q : Value → Shared → Prop} (k : Kp g s.heap) (C : En env ns gs) (G : GlobAt g x (.type T))
    (h : wpAny (model prog w) A (spliced (backTo pos (starEach (e :: rest) env))) (fun vs s₁ => wpAny (model prog w) A (call (.type T) vs) Q E s₁) E s)
    (m : x ∈ gs := by walk_at "mem") (he : starEach (e :: rest) env = (false, eval e env) :: starEach rest env := by rfl) (hplain : (backTo pos (starEach rest env)).any (·.1) = false := by rfl) :
    wpAny (model prog w) A (eval (.Call (.Name x np) (e :: rest) [] pos) env) Q E s :=
  Call_ (gl k C G (PyProof.Rows.callWith_type1 h he hplain) m)
theorem cblt {x : Str} {id : String} {np pos : Pos} {e : PySem.Expr} {rest : List PySem.Expr} {Q : Value → Shared → Prop} (k : Kp g s.heap) (C : En env ns gs) (G : GlobAt g x (.builtin id))
    (h : wpAny (model prog w) A (spliced (backTo pos (starEach (e :: rest) env))) (fun vs s₁ => wpAny (model prog w) A (call (.builtin id) vs) Q E s₁) E s)
    (m : x ∈ gs := by walk_at "mem") (he : starEach (e :: rest) env = (false, eval e env) :: starEach rest env := by rfl) (hplain : (backTo pos (starEach rest env)).any (·.1) = false := by rfl) :
    wpAny (model prog w) A (eval (.Call (.Name x np) (e :: rest) [] pos) env) Q E s :=
  Call_ (gl k C G (callWith_builtin1 h he hplain) m)
end

theorem lk_binds (rest : List Str) : ∀ binds : List (Str × Value), (binds.map (·.1) ++ rest).Nodup →
    (fun x => binds.reverse.lookup x) = lk (binds.map (·.1) ++ rest) (binds.map (fun b => some b.2) ++ rest.map fun _ => none) := by
  have none_rest : ∀ (rest : List Str) x, lk rest (rest.map fun _ => none) x = none := by
    intro rest
    induction rest with
    | nil => intro x; rfl
    | cons n r ih => intro x; simp only [List.map_cons, lk]; split <;> first | rfl | exact ih x
  intro binds
  induction binds with
  | nil => intro _; funext x; simp [none_rest]
  | cons b r ih =>
    intro nd
    rw [List.map_cons, List.cons_append] at nd
    have h := List.nodup_cons.mp nd
    have ih := ih h.2
    funext x
    have e := congrFun ih x
    simp only [List.reverse_cons, List.lookup_append, List.map_cons, List.cons_append, lk] at e ⊢
    by_cases hx : x = b.1
    · subst hx
      have : r.reverse.lookup b.1 = none := by
        rw [List.lookup_eq_none_iff]
        intro p hp
        rw [bne_iff_ne]
        intro q
        exact h.1 (List.mem_append.mpr (.inl (q ▸ List.mem_map_of_mem (List.mem_reverse.mp hp))))
      rw [this, if_pos rfl]
      obtain ⟨k, v⟩ := b
      simp
    · rw [if_neg hx, ← e]
      have : (x == b.1) = false := beq_eq_false_iff_ne.mpr hx
      obtain ⟨k, v⟩ := b
      simp [List.lookup, this]

theorem enter {prog : Program} {w : World} {A : Around} {R : Result → Shared → Prop} {s : Shared} {f : Addr} {args : List Value} {body : List Stmt}
    {g : Heap} {nw : Nw} (ps rest gs ns : List Str) (vs : List (Option Value)) (hroom : A.depth < 900) (hf : IsFn s.heap f) (hlim : s.heap.NoLimit) (kg : Kp g s.heap)
    (hnw : ∀ p ∈ nw, (∃ o, s.heap.get? p.1 = some o ∧ p.2 o) ∧ g.get? p.1 = none) (nd : (nw.map (·.1)).Nodup)
    (hbody : (fdAt f).body = .stmts body) (hbind : bindArgs (fdAt f) ⟨args, []⟩ = pure (ps.zip args)) (hl : ps.length = args.length)
    (ok : scOk (fdAt f).scope (ps ++ rest) gs = true) (hcell : ((fdAt f).scope.names.all fun x => x.2 != .cell) = true)
    (glb : ((fdAt f).globals = mainGlobals ∧ (fdAt f).builtins = builtinsNs) ∧ (fdAt f).scope.isCoroutine = false ∧ (fdAt f).scope.isGenerator = false)
    (hns : ps ++ rest = ns) (hvs : args.map some ++ (rest.map fun _ => none) = vs)
    (h : ∀ env AA h₀ t, (∀ P : Around → Prop, P (A.deeper env) → P AA) → En env ns gs → Sx g env.locals h₀ ns vs nw →
      wpAny (model prog w) AA (execs body env) (fun fl s' => R (.ok (.ret (match fl with | .ret v => v | _ => .none))) s') (fun _ _ => False) { s with heap := h₀, toks := t }) :
    codeAny (model prog w) A (.call (.ref f) ⟨args, []⟩) R s := by
  have e1 : (ps.zip args).map (·.1) = ps := List.map_fst_zip (Nat.le_of_eq hl)
  have e2 : (ps.zip args).map (fun b => some b.2) = args.map some := by
    have e := congrArg (List.map some) (List.map_snd_zip (l₁ := ps) (l₂ := args) (Nat.le_of_eq hl.symm))
    rw [List.map_map] at e; exact e
  have E0 : En (callEnv (fdAt f) s.heap.objs.size f) (ps ++ rest) gs := En.of ok glb.1.1 glb.1.2
  have lb := lk_binds rest (ps.zip args) (by rw [e1]; exact E0.dup)
  rw [e1, e2, hns, hvs] at lb
  refine codeAny_call_def (fd := fdAt f) (Nat.lt_trans hroom (by decide)) hf.1 rfl hlim hf.2 hbody (BindsTo.of_eq hbind) (fun x hx => ?_) (fun x hx => ?_) (fun h₀ hns' hk => ?_) glb.2.1 glb.2.2 E0.kind
  · have := List.all_eq_true.mp hcell x hx
    simpa using this
  · exact (E0.loc x.1 (List.mem_append.mpr (.inl (e1 ▸ List.mem_map_of_mem hx)))).1
  · refine wpAny_mono (h (callEnv (fdAt f) s.heap.objs.size f) _ h₀ _ (fun _ x => x) (hns ▸ E0) ?_) (fun _ _ y => y) fun _ _ y => y.elim
    refine ⟨lb ▸ hns', kg.tr hk, ?_, fun p hp => ?_, nd⟩
    · cases q : g.get? s.heap.objs.size with
      | none => exact q
      | some o' => exact absurd (Heap.lt_size (kg _ _ q)) (Nat.lt_irrefl _)
    · obtain ⟨⟨o, e, r⟩, z⟩ := hnw p hp
      exact ⟨⟨o, hk _ _ e, r⟩, fun q => by
        have l := Heap.lt_size e
        rw [show p.1 = s.heap.objs.size from q] at l
        exact Nat.lt_irrefl _ l, z⟩

section
variable {w : World} {g : Heap}
theorem g_len (G : Gk w g) : GlobAt g "len" (.builtin "len") := G.blt (by with_unfolding_all rfl) (by decide +kernel) (by decide)
theorem g_range (G : Gk w g) : GlobAt g "range" (.type "range") := G.blt (by with_unfolding_all rfl) (by decide +kernel) (by decide)
theorem g_reversed (G : Gk w g) : GlobAt g "reversed" (.type "reversed") := G.blt (by with_unfolding_all rfl) (by decide +kernel) (by decide)
theorem g_siftdown (G : Gk w g) : GlobAt g "_siftdown" (.ref 49) := G.own (by with_unfolding_all rfl)
theorem g_siftup (G : Gk w g) : GlobAt g "_siftup" (.ref 56) := G.own (by with_unfolding_all rfl)
theorem g_heapify (G : Gk w g) : GlobAt g "heapify" (.ref 42) := G.own (by with_unfolding_all rfl)
theorem g_heappop (G : Gk w g) : GlobAt g "heappop" (.ref 35) := G.own (by with_unfolding_all rfl)
theorem g_heappush (G : Gk w g) : GlobAt g "heappush" (.ref 28) := G.own (by with_unfolding_all rfl)
theorem fn28 (G : Gk w g) : IsFn g 28 := G.fn 28 (by with_unfolding_all rfl) (by with_unfolding_all rfl)
theorem fn35 (G : Gk w g) : IsFn g 35 := G.fn 35 (by with_unfolding_all rfl) (by with_unfolding_all rfl)
theorem fn42 (G : Gk w g) : IsFn g 42 := G.fn 42 (by with_unfolding_all rfl) (by with_unfolding_all rfl)
theorem fn49 (G : Gk w g) : IsFn g 49 := G.fn 49 (by with_unfolding_all rfl) (by with_unfolding_all rfl)
theorem fn56 (G : Gk w g) : IsFn g 56 := G.fn 56 (by with_unfolding_all rfl) (by with_unfolding_all rfl)
theorem fn63 (G : Gk w g) : IsFn g 63 := G.fn 63 (by with_unfolding_all rfl) (by with_unfolding_all rfl)
theorem fn80 (G : Gk w g) : IsFn g 80 := G.fn 80 (by with_unfolding_all rfl) (by with_unfolding_all rfl)
theorem fn87 (G : Gk w g) : IsFn g 87 := G.fn 87 (by with_unfolding_all rfl) (by with_unfolding_all rfl)
theorem fn94 (G : Gk w g) : IsFn g 94 := G.fn 94 (by with_unfolding_all rfl) (by with_unfolding_all rfl)
theorem fn115 (G : Gk w g) : IsFn g 115 := G.fn 115 (by with_unfolding_all rfl) (by with_unfolding_all rfl)
theorem fn136 (G : Gk w g) : IsFn g 136 := G.fn 136 (by with_unfolding_all rfl) (by with_unfolding_all rfl)
theorem fn143 (G : Gk w g) : IsFn g 143 := G.fn 143 (by with_unfolding_all rfl) (by with_unfolding_all rfl)
theorem fn148 (G : Gk w g) : IsFn g 148 := G.fn 148 (by with_unfolding_all rfl) (by with_unfolding_all rfl)
theorem fn155 (G : Gk w g) : IsFn g 155 := G.fn 155 (by with_unfolding_all rfl) (by with_unfolding_all rfl)
theorem fn162 (G : Gk w g) : IsFn g 162 := G.fn 162 (by with_unfolding_all rfl) (by with_unfolding_all rfl)
theorem fn167 (G : Gk w g) : IsFn g 167 := G.fn 167 (by with_unfolding_all rfl) (by with_unfolding_all rfl)
theorem g_ellipsis (G : Gk w g) : GlobAt g "_ellipsis_match" (.ref 63) := G.own (by with_unfolding_all rfl)
theorem g_lead (G : Gk w g) : GlobAt g "_law_lead" (.ref 136) := G.own (by with_unfolding_all rfl)
theorem g_columns (G : Gk w g) : GlobAt g "_law_columns" (.ref 143) := G.own (by with_unfolding_all rfl)
theorem g_order (G : Gk w g) : GlobAt g "_law_order" (.ref 148) := G.own (by with_unfolding_all rfl)
theorem g_comes (G : Gk w g) : GlobAt g "_law_comes" (.ref 155) := G.own (by with_unfolding_all rfl)
theorem g_told (G : Gk w g) : GlobAt g "_law_told" (.ref 162) := G.own (by with_unfolding_all rfl)
theorem g_ws (G : Gk w g) : GlobAt g "Whitespace" (.ref 125) := G.own (by with_unfolding_all rfl)
theorem g_marker (G : Gk w g) : GlobAt g "ELLIPSIS_MARKER" (.str "..." 249) := G.own (by with_unfolding_all rfl)
theorem g_max (G : Gk w g) : GlobAt g "max" (.builtin "max") := G.blt (by with_unfolding_all rfl) (by decide +kernel) (by decide)
theorem g_zip (G : Gk w g) : GlobAt g "zip" (.type "zip") := G.blt (by with_unfolding_all rfl) (by decide +kernel) (by decide)
theorem g_sorted (G : Gk w g) : GlobAt g "sorted" (.builtin "sorted") := G.blt (by with_unfolding_all rfl) (by decide +kernel) (by decide)
theorem g_list (G : Gk w g) : GlobAt g "list" (.type "list") := G.blt (by with_unfolding_all rfl) (by decide +kernel) (by decide)
theorem g_tuple (G : Gk w g) : GlobAt g "tuple" (.type "tuple") := G.blt (by with_unfolding_all rfl) (by decide +kernel) (by decide)
end

local macro_rules | `(tactic| walk_at "put") => `(tactic| (with_reducible (first | exact Put.hd | (apply Put.tl; walk_at "put"))))
local macro_rules | `(tactic| walk_at "mem") => `(tactic| (with_reducible (first | exact List.mem_cons_self | (apply List.mem_cons_of_mem; walk_at "mem"))))
local macro_rules | `(tactic| walk_at "ch") => `(tactic| (with_reducible (first | exact Ch.hd | (apply Ch.tl; walk_at "ch"))))

/-! what a call finds around it -/
noncomputable def Ar (A : Around) (d : Nat) : Prop := A.handled = none ∧ A.depth + d < 900 ∧ A.units + 10 * d + 100 < 9900
theorem Ar.deeper {A : Around} {d : Nat} (x : Ar A (d + 1)) (env : Env) : Ar (A.deeper env) d :=
  ⟨x.1, by have := x.2.1; show A.depth + 1 + d < 900; omega, by have := x.2.2; show A.units + 3 + 10 * d + 100 < 9900; omega⟩
theorem Ar.le {A : Around} {d e : Nat} (x : Ar A d) (h : e ≤ d) : Ar A e := ⟨x.1, by have := x.2.1; omega, by have := x.2.2; omega⟩
theorem Ar.room {A : Around} {d : Nat} (x : Ar A d) : A.depth < 900 := by have := x.2.1; omega

/-! iterators -/
structure Gen (prog : Program) (w : World) (n : Nat) (S : Nat → Obj → Prop) (val : Nat → Value → Prop) (ok : Heap → Prop) : Prop where
  item : ∀ {A : Around} {E : Value → Shared → Prop} {s : Shared} {it : Addr} {i : Nat} {Q : Option Value → Shared → Prop}, i < n → (∃ o, s.heap.get? it = some o ∧ S i o) → ok s.heap →
    (∀ h' t v, KpB it s.heap h' → (∃ o, h'.get? it = some o ∧ S (i + 1) o) → val i v → Q (some v) { s with heap := h', toks := t }) → wpAny (model prog w) A (pyNext (.ref it)) Q E s
  stop : ∀ {A : Around} {E : Value → Shared → Prop} {s : Shared} {it : Addr} {Q : Option Value → Shared → Prop}, A.handled = none → (∃ o, s.heap.get? it = some o ∧ S n o) → ok s.heap →
    (∀ h', KpB it s.heap h' → Q none { s with heap := h' }) → wpAny (model prog w) A (pyNext (.ref it)) Q E s
  self : ∀ {A : Around} {E : Value → Shared → Prop} {s : Shared} {it : Addr} {i : Nat} {Q : Value → Shared → Prop}, (∃ o, s.heap.get? it = some o ∧ S i o) → Q (.ref it) s → wpAny (model prog w) A (pyIter (.ref it)) Q E s

noncomputable def rgObj (x left step : Int) : Obj := { cls := .type "range_iterator", dict := none, data := .fields #[rawInt x, rawInt left, rawInt step], slots := #[] }
noncomputable def isRg (a c : Int) (n : Nat) (i : Nat) : Obj → Prop := fun o => o = rgObj (a + i * c) ((n : Int) - i) c
noncomputable def intAt (a c : Int) (i : Nat) (v : Value) : Prop := ∃ t, v = .int (a + i * c) t
theorem gen_range (prog : Program) (w : World) (a c : Int) (n : Nat) : Gen prog w n (isRg a c n) (intAt a c) (fun _ => True) where
  item := fun {A E s it i Q} hi ho _ hQ => by
    obtain ⟨o, e, rfl⟩ := ho
    refine wpAny_pyNext_range_item (show IsRangeIter s.heap it (a + i * c) ((n : Int) - i) c from e) (by first | with_reducible assumption | with_reducible exact lt5 (by assumption) | omega) fun h' hit hs => hQ h' _ _ (KpB.of_same hs) ⟨_, hit, ?_⟩ ⟨_, rfl⟩
    have e1 : a + ((i + 1 : Nat) : Int) * c = a + (i : Int) * c + c := by push_cast; rw [Int.add_mul, Int.one_mul, Int.add_assoc]
    have e2 : (n : Int) - ((i + 1 : Nat) : Int) = (n : Int) - (i : Int) - 1 := by push_cast; omega
    unfold isRg
    rw [e1, e2]; rfl
  stop := fun {A E s it Q} hh ho _ hQ => by
    obtain ⟨o, e, rfl⟩ := ho
    exact wpAny_pyNext_range_end hh (show IsRangeIter s.heap it (a + n * c) ((n : Int) - n) c from e) (by first | with_reducible assumption | with_reducible exact lt5 (by assumption) | omega) fun h' hs => hQ h' hs
  self := fun {A E s it i Q} ho hq => by
    obtain ⟨o, e, rfl⟩ := ho
    exact wpAny_pyIter_rangeiter (show IsRangeIter s.heap it (a + i * c) ((n : Int) - i) c from e) hq

noncomputable def isLi (l : Addr) (i : Nat) : Obj → Prop := fun o => o.cls = .type "list_iterator" ∧ o.data = .fields #[.ref l, .int i 0]
theorem gen_list (prog : Program) (w : World) (l : Addr) (vs : List Value) : Gen prog w vs.length (isLi l) (fun i v => vs[i]? = some v) (fun h => h.IsList l vs.toArray) where
  item := fun {A E s it i Q} hi ho hl hQ => by
    obtain ⟨o, e, r⟩ := ho
    refine wpAny_pyNext_list_item (x := vs[i]) ⟨o, e, r⟩ hl (by simp [hi]) fun h' hit hs => hQ h' _ _ (KpB.of_same hs) hit (by simp [hi])
  stop := fun {A E s it Q} hh ho hl hQ => by
    obtain ⟨o, e, r⟩ := ho
    exact wpAny_pyNext_list_end hh ⟨o, e, r⟩ hl (by simp) fun h' hs => hQ h' hs
  self := fun {A E s it i Q} ho hq => by
    obtain ⟨o, e, r⟩ := ho
    exact wpAny_pyIter_listiter ⟨o, e, r⟩ hq

noncomputable def isSi (x : Str) (t : Tok) (i : Nat) : Obj → Prop := fun o => o.cls = .type "str_ascii_iterator" ∧ o.data = .fields #[.str x t, .int i 0]
theorem gen_str (prog : Program) (w : World) (x : Str) (t : Tok) : Gen prog w x.cps.size (isSi x t) (fun i v => ∃ c k, x.cps[i]? = some c ∧ v = .str ⟨#[c]⟩ k) (fun _ => True) where
  item := fun {A E s it i Q} hi ho _ hQ => by
    obtain ⟨o, e, r⟩ := ho
    refine wpAny_pyNext_ascii_item (c := x.cps[i]) ⟨o, e, r⟩ (by simp [hi]) fun h' hit hs => hQ h' _ _ (KpB.of_same hs) hit ⟨_, _, by simp [hi], rfl⟩
  stop := fun {A E s it Q} hh ho _ hQ => by
    obtain ⟨o, e, r⟩ := ho
    exact wpAny_pyNext_ascii_end hh ⟨o, e, r⟩ (by simp) fun h' hs => hQ h' hs
  self := fun {A E s it i Q} ho hq => by
    obtain ⟨o, e, r⟩ := ho
    exact wpAny_pyIter_striter_ascii ⟨o, e, r⟩ hq

section
variable {prog : Program} {w : World} {A : Around} {E : Value → Shared → Prop} {s : Shared} {env : Env} {g : Heap} {L : Addr} {ns gs : List Str} {vs : List (Option Value)} {nw : Nw}
/-- a for loop over an iterator that the call has made -/
theorem for_in {sH : Heap} {sG : Array GenState} {sD : Drawn} {sT : Nat} {sO : OsState} {n : Nat} {S : Nat → Obj → Prop} {val : Nat → Value → Prop} {ok : Heap → Prop} {it : Addr} {x : Str} {px : Pos} {body : List Stmt} {R : Result → Shared → Prop} {σ : Type}
    (G : Gen prog w n S val ok) (V : σ → List (Option Value)) (V' : σ → Value → List (Option Value)) (W : σ → Nw) (J : Nat → σ → Prop) (a₀ : σ) (hh : A.handled = none) (C : En env ns gs)
    (okg : ∀ h, Kp g h → ok h) (F : Sx g env.locals sH ns (V a₀) ((it, S 0) :: W a₀)) (h0 : J 0 a₀) (put : ∀ a v, Put ns (V a) x v (V' a v))
    (step : ∀ i a v h t, i < n → J i a → val i v → Sx g env.locals h ns (V' a v) ((it, S (i + 1)) :: W a) →
      wpAny (model prog w) A (execs body env) (fun f s' => match f with
        | .next | .cont => ∃ h t b, s' = ⟨h, sG, sD, t, sO⟩ ∧ J (i + 1) b ∧ Sx g env.locals h ns (V b) ((it, S (i + 1)) :: W b)
        | .brk => R (.ok .next) s'
        | .ret v => R (.ok (.ret v)) s') (notedBy (model prog w) A env fun e s' => R (.error e) s') ⟨h, sG, sD, t, sO⟩)
    (fin : ∀ a h t, J n a → Sx g env.locals h ns (V a) (W a) → R (.ok .next) ⟨h, sG, sD, t, sO⟩) :
    codeAny (model prog w) A (.forLoop (.Name x px) (.ref it) body [] env) R ⟨sH, sG, sD, sT, sO⟩ := by
  refine codeAny_forLoop (fun k s' => ∃ i a h t, k = n - i ∧ i ≤ n ∧ s' = ⟨h, sG, sD, t, sO⟩ ∧ J i a ∧ Sx g env.locals h ns (V a) ((it, S i) :: W a)) ?_ n ⟨0, a₀, _, _, rfl, Nat.zero_le _, rfl, h0, F⟩
  rintro k s' ⟨i, a, h, t, rfl, hi, rfl, hJ, F⟩
  have hit := (F.news (it, S i) List.mem_cons_self).1
  by_cases hlt : i < n
  · refine G.item hlt hit (okg _ F.keep) fun h₁ t₁ v k₁ ho hv => ?_
    have F₁ : Sx g env.locals h₁ ns (V a) ((it, S (i + 1)) :: W a) := F.mut k₁ ho Ch.hd
    refine wpAny_assign_Name (st F₁ C (fun h₂ t₂ F₂ => ?_) (put a v))
    refine wpAny_mono (step i a v h₂ t₂ hlt hJ hv F₂) (fun f s₃ h₃ => ?_) fun _ _ e => e
    cases f with
    | next => obtain ⟨h, t, b, e, j, F⟩ := h₃; exact ⟨n - (i + 1), by omega, i + 1, b, h, t, rfl, hlt, e, j, F⟩
    | cont => obtain ⟨h, t, b, e, j, F⟩ := h₃; exact ⟨n - (i + 1), by omega, i + 1, b, h, t, rfl, hlt, e, j, F⟩
    | brk => exact h₃
    | ret v => exact h₃
  · have hin : i = n := by omega
    subst hin
    refine G.stop hh hit (okg _ F.keep) fun h₁ k₁ => wpAny_execs_nil ?_
    have m := F.news (it, S i) List.mem_cons_self
    have F' := F.drop
    refine fin a h₁ _ hJ ⟨ns_kp F'.loc (fun o e => k₁ _ o (Ne.symm m.2.1) e), k₁.kp F'.keep m.2.2, F'.noL, fun p hp => ?_, F'.nd⟩
    obtain ⟨⟨o, e, r⟩, q⟩ := F'.news p hp
    refine ⟨⟨o, k₁ _ _ (fun z => ?_) e, r⟩, q⟩
    have nd := F.nd
    rw [List.map_cons] at nd
    refine (List.nodup_cons.mp nd).1 ?_
    show it ∈ _
    rw [← z]; exact List.mem_map_of_mem (f := fun x : Addr × (Obj → Prop) => x.1) hp

noncomputable def isRange (a b : Int) : Obj → Prop := fun o => ∃ t u v, o = { cls := .type "range", dict := none, data := .fields #[.int a t, .int b u, .int 1 v], slots := #[] }
theorem rangeSize_up (a : Int) (n : Nat) : Builtin.Range.rangeSize a (a + n) 1 = n := by
  unfold Builtin.Range.rangeSize
  rw [if_pos (by decide)]
  split <;> omega
theorem range_small (a : Int) (n : Nat) (h1 : -1000000 < a) (h2 : a < 1000000) (h3 : n < 1000000) : Builtin.Range.small a (a + n) 1 = true := by
  unfold Builtin.Range.small
  rw [rangeSize_up]
  have fit : ∀ x : Int, -4000000 < x → x < 4000000 → Builtin.Range.rangeFitsLong x = true := by
    intro x a b
    unfold Builtin.Range.rangeFitsLong
    simp only [Bool.and_eq_true, decide_eq_true_eq]
    omega
  rw [fit a (by first | with_reducible assumption | with_reducible exact lt5 (by assumption) | omega) (by first | with_reducible assumption | with_reducible exact lt5 (by assumption) | omega), fit (a + n) (by first | with_reducible assumption | with_reducible exact lt5 (by assumption) | omega) (by first | with_reducible assumption | with_reducible exact lt5 (by assumption) | omega), fit 1 (by first | with_reducible assumption | with_reducible exact lt5 (by assumption) | omega) (by first | with_reducible assumption | with_reducible exact lt5 (by assumption) | omega), fit n (by first | with_reducible assumption | with_reducible exact lt5 (by assumption) | omega) (by first | with_reducible assumption | with_reducible exact lt5 (by assumption) | omega)]
  simp only [Bool.and_true, Bool.true_and, Bool.or_eq_true]
  right
  rw [if_pos (by decide)]
  exact fit _ (by first | with_reducible assumption | with_reducible exact lt5 (by assumption) | omega) (by first | with_reducible assumption | with_reducible exact lt5 (by assumption) | omega)
theorem crange1 {sH : Heap} {sG : Array GenState} {sD : Drawn} {sT : Nat} {sO : OsState} {n : Nat} {t : Tok} {Q : Value → Shared → Prop} (F : Sx g L sH ns vs nw) (h : ∀ r h' t', Sx g L h' ns vs ((r, isRange 0 n) :: nw) → Q (.ref r) ⟨h', sG, sD, t', sO⟩) :
    wpAny (model prog w) A (call (.type "range") [.int n t]) Q E ⟨sH, sG, sD, sT, sO⟩ := call_range_1 (h _ _ _ (F.push _ ⟨_, _, _, rfl⟩ rfl))
theorem crange2 {sH : Heap} {sG : Array GenState} {sD : Drawn} {sT : Nat} {sO : OsState} {a b : Int} {t u : Tok} {Q : Value → Shared → Prop} (F : Sx g L sH ns vs nw) (h : ∀ r h' t', Sx g L h' ns vs ((r, isRange a b) :: nw) → Q (.ref r) ⟨h', sG, sD, t', sO⟩) :
    wpAny (model prog w) A (call (.type "range") [.int a t, .int b u]) Q E ⟨sH, sG, sD, sT, sO⟩ := call_range_2 (h _ _ _ (F.push _ ⟨_, _, _, rfl⟩ rfl))
theorem iter_range {sH : Heap} {sG : Array GenState} {sD : Drawn} {sT : Nat} {sO : OsState} {a b : Int} {n : Nat} {r : Addr} {Q : Value → Shared → Prop} (F : Sx g L sH ns vs nw) (m : (r, isRange a b) ∈ nw) (hb : b = a + n) (h1 : -1000000 < a) (h2 : a < 1000000) (h3 : n < 1000000)
    (h : ∀ it h', Sx g L h' ns vs ((it, isRg a 1 n 0) :: nw) → Q (.ref it) ⟨h', sG, sD, sT, sO⟩) : wpAny (model prog w) A (pyIter (.ref r)) Q E ⟨sH, sG, sD, sT, sO⟩ := by
  subst hb
  obtain ⟨⟨o, e, t, u, v, rfl⟩, _⟩ := F.news _ m
  refine wpAny_pyIter_range (show IsRange sH r a (a + n) 1 t u v from e) (range_small a n h1 h2 h3) (h _ _ (F.push _ ?_ rfl))
  rw [rangeSize_up]
  unfold isRg rgObj
  simp
theorem iter_list {sH : Heap} {sG : Array GenState} {sD : Drawn} {sT : Nat} {sO : OsState} {l : Addr} {its : List Value} {Q : Value → Shared → Prop} (F : Sx g L sH ns vs nw) (hl : sH.IsList l its.toArray)
    (h : ∀ it h', Sx g L h' ns vs ((it, isLi l 0) :: nw) → Q (.ref it) ⟨h', sG, sD, sT, sO⟩) : wpAny (model prog w) A (pyIter (.ref l)) Q E ⟨sH, sG, sD, sT, sO⟩ :=
  wpAny_pyIter_list hl (h _ _ (F.push _ ⟨rfl, rfl⟩ rfl))
theorem iter_str {sH : Heap} {sG : Array GenState} {sD : Drawn} {sT : Nat} {sO : OsState} {x : Str} {t : Tok} {Q : Value → Shared → Prop} (F : Sx g L sH ns vs nw) (ha : x.cps.all (· < 128) = true)
    (h : ∀ it h', Sx g L h' ns vs ((it, isSi x t 0) :: nw) → Q (.ref it) ⟨h', sG, sD, sT, sO⟩) : wpAny (model prog w) A (pyIter (.str x t)) Q E ⟨sH, sG, sD, sT, sO⟩ :=
  wpAny_pyIter_ascii ha (h _ _ (F.push _ ⟨rfl, rfl⟩ rfl))
theorem n_list {sH : Heap} {sG : Array GenState} {sD : Drawn} {sT : Nat} {sO : OsState} {M : Model} {xs : List Value} {Q : Value → Shared → Prop} (F : Sx g L sH ns vs nw) (hb : xs.length ≤ 16777216) (h : ∀ a h', Sx g L h' ns vs ((a, isL xs) :: nw) → Q (.ref a) ⟨h', sG, sD, sT, sO⟩) : wpAny M A (newList xs) Q E ⟨sH, sG, sD, sT, sO⟩ :=
  wpAny_newObj_type (h _ _ (F.push _ ⟨_, rfl⟩ rfl)) (by show xs.toArray.size ≤ sizeLine; rw [List.size_toArray]; exact hb)
noncomputable abbrev to (vs : List Value) : Obj := { cls := .type "tuple", dict := none, data := .seq vs.toArray 0, slots := #[] }
theorem n_tuple {sH : Heap} {sG : Array GenState} {sD : Drawn} {sT : Nat} {sO : OsState} {M : Model} {xs : List Value} {Q : Value → Shared → Prop} (F : Sx g L sH ns vs nw) (hb : xs.length ≤ 16777216) (h : ∀ a h', Sx g L h' ns vs ((a, isO (to xs)) :: nw) → Q (.ref a) ⟨h', sG, sD, sT, sO⟩) : wpAny M A (newTuple xs) Q E ⟨sH, sG, sD, sT, sO⟩ :=
  wpAny_newObj_type (h _ _ (F.push _ rfl rfl)) (by show xs.toArray.size ≤ sizeLine; rw [List.size_toArray]; exact hb)
end



noncomputable def Lk {α : Type} (M : Model) (h : Heap) (t : Sem α) (r : α) : Prop := ∀ (A : Around) (Q : α → Shared → Prop) (E : Value → Shared → Prop) (s : Shared), A.units < 9800 → Kp h s.heap → Q r s → wpAny M A t Q E s
theorem Lk.keeps {α : Type} {M : Model} {h h' : Heap} {t : Sem α} {r : α} (x : Lk M h t r) (k : Kp h h') : Lk M h' t r := fun A Q E s u k' q => x A Q E s u (k.tr k') q
theorem Ar.room2 {A : Around} {d : Nat} (x : Ar A d) : A.units < 9800 := by have := x.2.2; omega
noncomputable def sd {α : Type} (lt : α → α → Bool) (start : Nat) (new : α) (l : List α) (pos : Nat) : List α :=
  if h : start < pos then
    match l[(pos - 1) / 2]? with
    | some par => if lt new par then sd lt start new (l.set pos par) ((pos - 1) / 2) else l.set pos new
    | none => l
  else l.set pos new
termination_by pos
decreasing_by omega

section
variable {prog : Program} {w : World} {A : Around} {s : Shared} {g : Heap} {a : Addr} {vs : List Value} {lt : Value → Value → Bool}
theorem siftdown {start pos : Nat} {ka kb : Tok} (hA : Ar A 1) (G : Gk w g) (kg : Kp g s.heap) (ga : g.get? a = none) (hl : Hl s.heap a vs)
    (hlen : vs.length ≤ 100) {new : Value} (hp : vs[pos]? = some new) (cmp : ∀ x ∈ vs, ∀ y ∈ vs, Lk (model prog w) g (compareOp .Lt x y) (.bool (lt x y))) :
    codeAny (model prog w) A (.call (.ref 49) ⟨[.ref a, .int start ka, .int pos kb], []⟩)
      (Ends s fun v h => v = .none ∧ KpB a s.heap h ∧ Hl h a (sd lt start new vs pos)) s := by
  have kg' : Kp g (s.heap.hide a) := kg.hide ga
  have hd' : pos < vs.length := (List.getElem?_eq_some_iff.mp hp).1
  refine enter ["heap", "startpos", "pos"] ["newitem", "parentpos", "parent"] []
    ["heap", "startpos", "pos", "newitem", "parentpos", "parent"] [some (.ref a), some (.int start ka), some (.int pos kb), none, none, none] (g := s.heap.hide a) (nw := [(a, isL vs)]) hA.room ((fn49 G).kp kg) (G.nolimit.keeps kg) Kp.of_hide
    (by simpa [Heap.hide_self] using hl) (by simp) (by with_unfolding_all rfl) (by with_unfolding_all rfl) rfl (by decide +kernel) (by decide +kernel) (by decide +kernel) rfl rfl (fun env AA h₀ t hAA C F => ?_)
  have hA1 := hAA (fun a => Ar a _) (hA.deeper env)
  refine opq fun QQ EE hQQ _ => ?_
  refine wpAny_execs_cons (wpAny_Assign_Name (Subscript_ (ld F C (by with_reducible repeat (first | exact At.hd | apply At.tl)) (ld F C (by with_reducible repeat (first | exact At.hd | apply At.tl)) (itemn (F.isl) (by first | with_reducible assumption | with_reducible exact lt5 (by assumption) | omega) hp (st F C fun h1 t1 F1 => ?_))))))
  try dsimp only
  refine wpAny_execs_cons (wpAny_While ?_)
  refine codeAny_whileLoop (fun n s' => ∃ h t l tp o1 o2, s' = { s with heap := h, toks := t } ∧
    Sx (s.heap.hide a) env.locals h ["heap", "startpos", "pos", "newitem", "parentpos", "parent"] [some (.ref a), some (.int start ka), some (.int (n : Int) tp), some new, o1, o2] [(a, isL l)] ∧
    l.length = vs.length ∧ n < l.length ∧ sd lt start new l n = sd lt start new vs pos ∧ ∀ x ∈ l, x ∈ vs) ?_ pos ⟨h1, _, vs, _, _, _, rfl, F1, rfl, hd', rfl, fun _ e => e⟩
  rintro n s' ⟨h, t, l, tp, o1, o2, rfl, F, ll, nl, hs, hm⟩
  refine opq fun Q1 E1 hQ1 _ => ?_
  refine wpAny_isTrue_Compare1 (ld F C (by with_reducible repeat (first | exact At.hd | apply At.tl)) (ld F C (by with_reducible repeat (first | exact At.hd | apply At.tl)) (gt_int (wpAny_truthy_bool ?_))))
  refine hQ1 _ _ ?_
  clear hQ1
  by_cases hc : start < n
  · rw [if_pos (by simpa using hc)]
    refine opq fun Q1 E1 hQ1 _ => ?_
    have hq : (n - 1) / 2 < l.length := by omega
    have hpar : l[(n - 1) / 2]? = some l[(n - 1) / 2] := List.getElem?_eq_getElem hq
    rw [sd, dif_pos hc, hpar] at hs
    try dsimp only at hs
    refine wpAny_execs_cons (wpAny_Assign_Name (wpAny_BinOp (wpAny_BinOp (ld F C (by with_reducible repeat (first | exact At.hd | apply At.tl)) (k_int fun _ _ => i_sub fun _ _ => k_int fun _ _ => i_shr (by decide) fun _ _ => st F C fun h1 t1 F1 => ?_)))))
    try dsimp only
    have e1 : ((n : Int) - 1).fdiv (2 ^ (1 : Int).toNat) = (((n - 1) / 2 : Nat) : Int) := by
      rw [show ((2 : Int) ^ (1 : Int).toNat) = 2 from rfl, Int.fdiv_eq_ediv_of_nonneg _ (by decide)]; omega
    rw [e1] at F1
    refine wpAny_execs_cons (wpAny_Assign_Name (Subscript_ (ld F1 C (by with_reducible repeat (first | exact At.hd | apply At.tl)) (ld F1 C (by with_reducible repeat (first | exact At.hd | apply At.tl)) (itemn (F1.isl) (by first | with_reducible assumption | with_reducible exact lt5 (by assumption) | omega) hpar (st F1 C fun h2 t2 F2 => ?_))))))
    try dsimp only
    refine wpAny_execs_cons (wpAny_If (wpAny_isTrue_Compare1 (ld F2 C (by with_reducible repeat (first | exact At.hd | apply At.tl)) (ld F2 C (by with_reducible repeat (first | exact At.hd | apply At.tl)) (cmp _ (List.mem_of_getElem? hp) _ (hm _ (List.getElem_mem _)) _ _ _ _ hA1.room2 (kg'.tr F2.keep) (wpAny_truthy_bool ?_))))))
    cases hlt : lt new l[(n - 1) / 2] with
    | true =>
      rw [if_pos rfl]
      rw [if_pos hlt] at hs
      refine wpAny_execs_cons (wpAny_Assign_Subscript (ld F2 C (by with_reducible repeat (first | exact At.hd | apply At.tl)) (ld F2 C (by with_reducible repeat (first | exact At.hd | apply At.tl)) (ld F2 C (by with_reducible repeat (first | exact At.hd | apply At.tl)) (setn (F2.isl) (by first | with_reducible assumption | with_reducible exact lt5 (by assumption) | omega) (by first | with_reducible assumption | with_reducible exact lt5 (by assumption) | omega) fun h3 sb il => ?_)))))
      try dsimp only
      have F3 := F2.mut sb il
      refine wpAny_execs_cons (wpAny_Assign_Name (ld F3 C (by with_reducible repeat (first | exact At.hd | apply At.tl)) (st F3 C fun h4 t4 F4 => ?_)))
      try dsimp only
      refine wpAny_execs_cons (SiftDown.continue_ ?_)
      try dsimp only
      refine hQ1 _ _ ?_
      refine ⟨(n - 1) / 2, by omega, h4, _, _, _, _, _, rfl, F4, by simpa using ll, by rw [List.length_set]; omega, hs, fun x hx => ?_⟩
      rcases List.mem_or_eq_of_mem_set hx with h | h
      · exact hm x h
      · exact h ▸ hm _ (List.getElem_mem _)
    | false =>
      rw [if_neg (by simp)]
      rw [if_neg (by simp [hlt])] at hs
      refine wpAny_execs_nil ?_
      try dsimp only
      refine wpAny_execs_cons (SiftDown.break_ ?_)
      try dsimp only
      refine hQ1 _ _ ?_
      try dsimp only
      refine wpAny_execs_cons (wpAny_Assign_Subscript (ld F2 C (by with_reducible repeat (first | exact At.hd | apply At.tl)) (ld F2 C (by with_reducible repeat (first | exact At.hd | apply At.tl)) (ld F2 C (by with_reducible repeat (first | exact At.hd | apply At.tl)) (setn (F2.isl) (by first | with_reducible assumption | with_reducible exact lt5 (by assumption) | omega) (by first | with_reducible assumption | with_reducible exact lt5 (by assumption) | omega) fun h3 sb il => ?_)))))
      try dsimp only
      have F3 := F2.mut sb il
      refine wpAny_execs_nil ?_
      exact hQQ _ _ ⟨_, _, _, rfl, rfl, rfl, KpB.of_hide F3.keep, by rw [← hs]; exact F3.isl⟩
  · rw [if_neg (by simpa using hc)]
    rw [sd, dif_neg hc] at hs
    refine wpAny_execs_nil ?_
    try dsimp only
    refine wpAny_execs_cons (wpAny_Assign_Subscript (ld F C (by with_reducible repeat (first | exact At.hd | apply At.tl)) (ld F C (by with_reducible repeat (first | exact At.hd | apply At.tl)) (ld F C (by with_reducible repeat (first | exact At.hd | apply At.tl)) (setn (F.isl) (by first | with_reducible assumption | with_reducible exact lt5 (by assumption) | omega) (by first | with_reducible assumption | with_reducible exact lt5 (by assumption) | omega) fun h3 sb il => ?_)))))
    try dsimp only
    have F3 := F.mut sb il
    refine wpAny_execs_nil ?_
    exact hQQ _ _ ⟨_, _, _, rfl, rfl, rfl, KpB.of_hide F3.keep, by rw [← hs]; exact F3.isl⟩

noncomputable def pick {α : Type} (lt : α → α → Bool) (l : List α) (c : Nat) (h : c < l.length) : Nat := if h2 : c + 1 < l.length then (if lt l[c] l[c + 1] = true then c else c + 1) else c
theorem pick_lt {α : Type} (lt : α → α → Bool) (l : List α) (c : Nat) (h : c < l.length) : pick lt l c h < l.length := by
  unfold pick; split
  · split <;> omega
  · exact h
theorem le_pick {α : Type} (lt : α → α → Bool) (l : List α) (c : Nat) (h : c < l.length) : c ≤ pick lt l c h := by
  unfold pick; split
  · split <;> omega
  · exact Nat.le_refl _
noncomputable def suL {α : Type} (lt : α → α → Bool) (l : List α) (pos : Nat) : List α × Nat :=
  if h : 2 * pos + 1 < l.length then suL lt (l.set pos (l[pick lt l (2 * pos + 1) h]'(pick_lt ..))) (pick lt l (2 * pos + 1) h) else (l, pos)
termination_by l.length - pos
decreasing_by
  have := le_pick lt l (2 * pos + 1) h
  have := pick_lt lt l (2 * pos + 1) h
  rw [List.length_set]; omega
noncomputable def sup {α : Type} (lt : α → α → Bool) (new : α) (l : List α) (pos : Nat) : List α := sd lt pos new ((suL lt l pos).1.set (suL lt l pos).2 new) (suL lt l pos).2

theorem siftup {pos : Nat} {ka : Tok} (hA : Ar A 2) (G : Gk w g) (kg : Kp g s.heap) (ga : g.get? a = none) (hl : Hl s.heap a vs)
    (hlen : vs.length ≤ 100) {new : Value} (hp : vs[pos]? = some new) (cmp : ∀ x ∈ vs, ∀ y ∈ vs, Lk (model prog w) g (compareOp .Lt x y) (.bool (lt x y))) :
    codeAny (model prog w) A (.call (.ref 56) ⟨[.ref a, .int pos ka], []⟩) (Ends s fun v h => v = .none ∧ KpB a s.heap h ∧ Hl h a (sup lt new vs pos)) s := by
  have kg' : Kp g (s.heap.hide a) := kg.hide ga
  have G' := G.kp kg'
  have hd' : pos < vs.length := (List.getElem?_eq_some_iff.mp hp).1
  refine enter ["heap", "pos"] ["endpos", "startpos", "newitem", "childpos", "rightpos"] ["len", "_siftdown"]
    ["heap", "pos", "endpos", "startpos", "newitem", "childpos", "rightpos"] [some (.ref a), some (.int pos ka), none, none, none, none, none] (g := s.heap.hide a) (nw := [(a, isL vs)]) hA.room ((fn56 G).kp kg) (G.nolimit.keeps kg) Kp.of_hide
    (by simpa [Heap.hide_self] using hl) (by simp) (by with_unfolding_all rfl) (by with_unfolding_all rfl) rfl (by decide +kernel) (by decide +kernel) (by decide +kernel) rfl rfl (fun env AA h₀ t hAA C F => ?_)
  refine opq fun QQ EE hQQ _ => ?_
  have hA' := hAA (fun a => Ar a _) (hA.deeper env)
  refine wpAny_execs_cons (wpAny_Assign_Name (cblt F.keep C (g_len G') (args_cons (ld F C (by with_reducible repeat (first | exact At.hd | apply At.tl)) (args_nil (len_l F.isl (by first | with_reducible assumption | with_reducible exact lt5 (by assumption) | omega) fun _ _ => st F C fun h1 t1 F1 => ?_))))))
  try dsimp only
  refine wpAny_execs_cons (wpAny_Assign_Name (ld F1 C (by with_reducible repeat (first | exact At.hd | apply At.tl)) (st F1 C fun h2 t2 F2 => ?_)))
  try dsimp only
  refine wpAny_execs_cons (wpAny_Assign_Name (Subscript_ (ld F2 C (by with_reducible repeat (first | exact At.hd | apply At.tl)) (ld F2 C (by with_reducible repeat (first | exact At.hd | apply At.tl)) (itemn F2.isl (by first | with_reducible assumption | with_reducible exact lt5 (by assumption) | omega) hp (st F2 C fun h3 t3 F3 => ?_))))))
  try dsimp only
  refine wpAny_execs_cons (wpAny_Assign_Name (wpAny_BinOp (wpAny_BinOp (k_int fun _ _ => ld F3 C (by with_reducible repeat (first | exact At.hd | apply At.tl)) (i_mul fun _ _ => k_int fun _ _ => i_add fun _ _ => st F3 C fun h4 t4 F4 => ?_)))))
  try dsimp only
  rw [show (2 : Int) * (pos : Int) + 1 = ((2 * pos + 1 : Nat) : Int) by omega] at F4
  refine wpAny_execs_cons (wpAny_While ?_)
  refine codeAny_whileLoop (fun n s' => ∃ h t l p ke ks kp kc o1, n = l.length - p ∧ s' = { s with heap := h, toks := t } ∧
    Sx (s.heap.hide a) env.locals h ["heap", "pos", "endpos", "startpos", "newitem", "childpos", "rightpos"]
      [some (.ref a), some (.int (p : Nat) kp), some (.int vs.length ke), some (.int pos ks), some new, some (.int ((2 * p + 1 : Nat) : Int) kc), o1] [(a, isL l)] ∧
    l.length = vs.length ∧ p < l.length ∧ suL lt l p = suL lt vs pos ∧ ∀ x ∈ l, x ∈ vs) ?_ (vs.length - pos) ⟨h4, _, vs, pos, _, _, _, _, _, rfl, rfl, F4, rfl, hd', rfl, fun _ e => e⟩
  rintro n s' ⟨h, t, l, p, ke, ks, kp, kc, o1, rfl, rfl, F, ll, nl, hs, hm⟩
  refine opq fun Q1 E1 hQ1 _ => ?_
  refine wpAny_isTrue_Compare1 (ld F C (by with_reducible repeat (first | exact At.hd | apply At.tl)) (ld F C (by with_reducible repeat (first | exact At.hd | apply At.tl)) (lt_int (wpAny_truthy_bool ?_))))
  refine hQ1 _ _ ?_
  clear hQ1
  by_cases hc : 2 * p + 1 < l.length
  · rw [if_pos (by simp only [decide_eq_true_eq]; omega)]
    refine opq fun Q1 E1 hQ1 _ => ?_
    rw [suL, dif_pos hc] at hs
    refine wpAny_execs_cons (wpAny_Assign_Name (wpAny_BinOp (ld F C (by with_reducible repeat (first | exact At.hd | apply At.tl)) (k_int fun _ _ => i_add fun _ _ => st F C fun h1 t1 F1 => ?_))))
    try dsimp only
    rw [show ((2 * p + 1 : Nat) : Int) + 1 = ((2 * p + 2 : Nat) : Int) by omega] at F1
    refine mid (fun s' => ∃ h2 t2 kc o7, s' = { s with heap := h2, toks := t2 } ∧ Sx (s.heap.hide a) env.locals h2 ["heap", "pos", "endpos", "startpos", "newitem", "childpos", "rightpos"]
          [some (.ref a), some (.int (p : Nat) kp), some (.int vs.length ke), some (.int pos ks), some new, some (.int ((pick lt l (2 * p + 1) hc : Nat) : Int) kc), o7] [(a, isL l)]) ?_ ?_
    · refine opq fun Q2 E2 hQ2 _ => ?_
      refine wpAny_If (t_bool (all_cons (wpAny_isTrue_Compare1 (ld F1 C (by with_reducible repeat (first | exact At.hd | apply At.tl)) (ld F1 C (by with_reducible repeat (first | exact At.hd | apply At.tl)) (lt_int (wpAny_truthy_bool ?_)))))))
      by_cases hr : 2 * p + 2 < l.length
      · rw [if_pos (by simp only [decide_eq_true_eq]; omega)]
        refine all_cons <| t_not <| wpAny_isTrue_Compare1 <| Subscript_ <| ld F1 C (by with_reducible repeat (first | exact At.hd | apply At.tl)) <| ld F1 C (by with_reducible repeat (first | exact At.hd | apply At.tl)) <| itemn F1.isl (by first | with_reducible assumption | with_reducible exact lt5 (by assumption) | omega) (List.getElem?_eq_getElem hc) <| Subscript_ <| ld F1 C (by with_reducible repeat (first | exact At.hd | apply At.tl)) <| ld F1 C (by with_reducible repeat (first | exact At.hd | apply At.tl)) <| itemn F1.isl (by first | with_reducible assumption | with_reducible exact lt5 (by assumption) | omega) (List.getElem?_eq_getElem hr) <|
          cmp _ (hm _ (List.getElem_mem _)) _ (hm _ (List.getElem_mem _)) _ _ _ _ hA'.room2 (kg'.tr F1.keep) <| wpAny_truthy_bool ?_
        cases hlt : lt l[2 * p + 1] l[2 * p + 2] with
        | true =>
          have hpk : pick lt l (2 * p + 1) hc = 2 * p + 1 := by unfold pick; rw [dif_pos hr, if_pos hlt]
          simp only [Bool.not_true, Bool.false_eq_true, if_false]
          rw [← hpk] at F1
          exact wpAny_execs_nil (hQ2 _ _ ⟨rfl, _, _, _, _, rfl, F1⟩)
        | false =>
          have hpk : pick lt l (2 * p + 1) hc = 2 * p + 2 := by unfold pick; rw [dif_pos hr, if_neg (by simp [hlt])]
          simp only [Bool.not_false, if_true]
          refine all_nil ?_
          rw [if_pos rfl]
          refine wpAny_execs_cons (wpAny_Assign_Name (ld F1 C (by with_reducible repeat (first | exact At.hd | apply At.tl)) (st F1 C fun h2 t2 F2 => ?_)))
          try dsimp only
          rw [← hpk] at F2
          exact wpAny_execs_nil (hQ2 _ _ ⟨rfl, _, _, _, _, rfl, F2⟩)
      · have hpk : pick lt l (2 * p + 1) hc = 2 * p + 1 := by unfold pick; rw [dif_neg hr]
        rw [if_neg (by simp only [decide_eq_true_eq]; omega)]
        rw [if_neg (by decide)]
        rw [← hpk] at F1
        exact wpAny_execs_nil (hQ2 _ _ ⟨rfl, _, _, _, _, rfl, F1⟩)
    · rintro s' ⟨h2, t2, kc, o7, rfl, F2⟩
      have pl := pick_lt lt l (2 * p + 1) hc
      have pg := le_pick lt l (2 * p + 1) hc
      refine wpAny_execs_cons (wpAny_Assign_Subscript (Subscript_ (ld F2 C (by with_reducible repeat (first | exact At.hd | apply At.tl)) (ld F2 C (by with_reducible repeat (first | exact At.hd | apply At.tl)) (itemn F2.isl (by first | with_reducible assumption | with_reducible exact lt5 (by assumption) | omega) (List.getElem?_eq_getElem pl) (ld F2 C (by with_reducible repeat (first | exact At.hd | apply At.tl)) (ld F2 C (by with_reducible repeat (first | exact At.hd | apply At.tl)) (setn F2.isl (by first | with_reducible assumption | with_reducible exact lt5 (by assumption) | omega) (by first | with_reducible assumption | with_reducible exact lt5 (by assumption) | omega) fun h3 sb il => ?_))))))))
      try dsimp only
      have F3 := F2.mut sb il
      refine wpAny_execs_cons (wpAny_Assign_Name (ld F3 C (by with_reducible repeat (first | exact At.hd | apply At.tl)) (st F3 C fun h4 t4 F4 => ?_)))
      try dsimp only
      refine wpAny_execs_cons (wpAny_Assign_Name (wpAny_BinOp (wpAny_BinOp (k_int fun _ _ => ld F4 C (by with_reducible repeat (first | exact At.hd | apply At.tl)) (i_mul fun _ _ => k_int fun _ _ => i_add fun _ _ => st F4 C fun h5 t5 F5 => ?_)))))
      try dsimp only
      rw [show (2 : Int) * ((pick lt l (2 * p + 1) hc : Nat) : Int) + 1 = ((2 * pick lt l (2 * p + 1) hc + 1 : Nat) : Int) by omega] at F5
      refine wpAny_execs_nil ?_
      refine hQ1 _ _ ?_
      refine ⟨_, ?_, h5, _, _, _, _, _, _, _, _, rfl, rfl, F5, by simpa using ll, by rw [List.length_set]; exact pl, hs, fun x hx => ?_⟩
      · rw [List.length_set]; omega
      · rcases List.mem_or_eq_of_mem_set hx with h | h
        · exact hm x h
        · exact h ▸ hm _ (List.getElem_mem _)
  · rw [if_neg (by simp only [decide_eq_true_eq]; omega)]
    rw [suL, dif_neg hc] at hs
    refine wpAny_execs_nil ?_
    try dsimp only
    refine wpAny_execs_cons (wpAny_Assign_Subscript (ld F C (by with_reducible repeat (first | exact At.hd | apply At.tl)) (ld F C (by with_reducible repeat (first | exact At.hd | apply At.tl)) (ld F C (by with_reducible repeat (first | exact At.hd | apply At.tl)) (setn F.isl (by first | with_reducible assumption | with_reducible exact lt5 (by assumption) | omega) (by first | with_reducible assumption | with_reducible exact lt5 (by assumption) | omega) fun h3 sb il => ?_)))))
    try dsimp only
    have F3 := F.mut sb il
    have gn : (s.heap.hide a).get? a = none := Heap.hide_self s.heap a
    have hnew : new ∈ vs := List.mem_of_getElem? hp
    have hm3 : ∀ x ∈ l.set p new, x ∈ vs := fun x hx => by
      rcases List.mem_or_eq_of_mem_set hx with h | h
      · exact hm x h
      · exact h ▸ hnew
    refine wpAny_execs_cons (xpr C (cdef F3.keep C (g_siftdown G') (fn49 G') (args_cons (ld F3 C (by with_reducible repeat (first | exact At.hd | apply At.tl)) (args_cons (ld F3 C (by with_reducible repeat (first | exact At.hd | apply At.tl)) (args_cons (ld F3 C (by with_reducible repeat (first | exact At.hd | apply At.tl)) (args_nil ⟨F3.keep, use (siftdown hA' G' F3.keep gn F3.isl (by rw [List.length_set]; omega) (new := new)
      (by rw [List.getElem?_set_self nl]) fun x hx y hy => (cmp x (hm3 x hx) y (hm3 y hy)).keeps kg') fun v h' t hv => ?_⟩)))))))))
    obtain ⟨rfl, k, hl'⟩ := hv
    try dsimp only
    refine wpAny_execs_nil ?_
    refine hQQ _ _ ?_
    refine ⟨_, _, _, rfl, rfl, rfl, (KpB.of_hide F3.keep).tr k, ?_⟩
    unfold sup
    rw [← hs]
    exact hl'
end

section
variable {prog : Program} {w : World} {A : Around} {E : Value → Shared → Prop} {s : Shared} {g : Heap} {L : Addr} {ns gs : List Str} {vs : List (Option Value)} {nw : Nw}
theorem rev_small (n : Nat) (h : n < 1000000) : (Builtin.Range.rangeFitsLong 0 && Builtin.Range.rangeFitsLong n && Builtin.Range.rangeFitsLong 1 && Builtin.Range.rangeFitsLong (-1) && Builtin.Range.rangeFitsLong (0 - 1) && Builtin.Range.rangeFitsLong (n : Int)) = true := by
  have fit : ∀ x : Int, -4000000 < x → x < 4000000 → Builtin.Range.rangeFitsLong x = true := by
    intro x a b
    unfold Builtin.Range.rangeFitsLong
    simp only [Bool.and_eq_true, decide_eq_true_eq]
    omega
  rw [fit 0 (by first | with_reducible assumption | with_reducible exact lt5 (by assumption) | omega) (by first | with_reducible assumption | with_reducible exact lt5 (by assumption) | omega), fit n (by first | with_reducible assumption | with_reducible exact lt5 (by assumption) | omega) (by first | with_reducible assumption | with_reducible exact lt5 (by assumption) | omega), fit 1 (by first | with_reducible assumption | with_reducible exact lt5 (by assumption) | omega) (by first | with_reducible assumption | with_reducible exact lt5 (by assumption) | omega), fit (-1) (by first | with_reducible assumption | with_reducible exact lt5 (by assumption) | omega) (by first | with_reducible assumption | with_reducible exact lt5 (by assumption) | omega), fit (0 - 1) (by first | with_reducible assumption | with_reducible exact lt5 (by assumption) | omega) (by first | with_reducible assumption | with_reducible exact lt5 (by assumption) | omega)]; rfl
theorem call_range_rev {r : Addr} {n : Nat} {t u v : Tok} {Q : Value → Shared → Prop} (hr : IsRange s.heap r 0 n 1 t u v) (hn : n < 1000000)
    (h : Q (.ref s.heap.objs.size) { s with heap := s.heap.push (rgObj ((n : Int) - 1) n (-1)) }) : wpAny (model prog w) A (call (.builtin "range.__reversed__") [.ref r]) Q E s := by
  have hT : s.TypeIs (.ref r) "range" := ⟨_, hr, rfl⟩
  refine wpAny_call_entry F.slot_range_reversed hT F.entry_range_reversed ?_ (F.args_range_reversed_1 _)
  unfold Builtin.«range.__reversed__»
  refine wpAny_bind (wpAny_of_eq (a := Value.ref r) rfl ?_)
  have hf : wpAny (model prog w) A.in1 (Builtin.Range.rangeFields (.ref r)) (fun x s' => x = (0, (n : Int), 1) ∧ s' = s) (fun _ _ => False) s := by
    unfold Builtin.Range.rangeFields
    refine wpAny_bind (wpAny_field hr rfl (x := .int 0 t) rfl (wpAny_bind (wpAny_of_eq (a := some 0) rfl ?_)))
    refine wpAny_bind (wpAny_field hr rfl (x := .int n u) rfl (wpAny_bind (wpAny_of_eq (a := some (n : Int)) rfl ?_)))
    refine wpAny_bind (wpAny_field hr rfl (x := .int 1 v) rfl (wpAny_bind (wpAny_of_eq (a := some 1) rfl ?_)))
    exact wpAny_pure ⟨rfl, rfl⟩
  refine wpAny_bind (wpAny_mono hf (fun x s' hx => ?_) fun _ _ y => y.elim)
  obtain ⟨rfl, rfl⟩ := hx
  try dsimp only
  have e0 : Builtin.Range.rangeSize 0 (n : Int) 1 = n := by simpa using rangeSize_up 0 n
  rw [e0, rev_small n hn]
  simp only [Bool.not_true, Bool.false_eq_true, if_false, if_true]
  rw [show (0 : Int) + ((n : Int) - 1) * 1 = (n : Int) - 1 by omega]
  first
    | exact wpAny_bind (wpAny_newObj_type (wpAny_pure ⟨_, rfl, h⟩))
    | exact wpAny_bind (wpAny_pure (wpAny_bind (wpAny_newObj_type (wpAny_pure ⟨_, rfl, h⟩))))

theorem sub_rgi_reversed : isSubtype (.type "range_iterator") (.type "reversed") = pure false := by rw [isSubtype_type]; kernel_rfl
theorem code_reversed_range {r : Addr} {n : Nat} {t u v : Tok} {Q₁ : Value → Shared → Prop} (hr : IsRange s.heap r 0 n 1 t u v) (hn : n < 1000000)
    (h : Q₁ (.ref s.heap.objs.size) { s with heap := s.heap.push (rgObj ((n : Int) - 1) n (-1)) }) :
    codeAny (model prog w) A (.call (.builtin "reversed.__new__") ⟨[.type "reversed", .ref r], []⟩) (wants Q₁ E) s := by
  have hT : s.TypeIs (.ref r) "range" := ⟨_, hr, rfl⟩
  refine codeAny_of_tree ?_
  show wpAny _ A.in1 (do checkBuiltinCall "reversed.__new__" ⟨[.type "reversed", .ref r], []⟩; again (.builtin "reversed.__new__" ⟨[.type "reversed", .ref r], []⟩)) _ _ s
  refine wpAny_bind (wpAny_of_eq (F.newCall_reversed_1 _) (wpAny_pure ⟨plainId_quiet F.plain_reversed_new _, codeAny_builtin F.entry_reversed_new ?_⟩))
  rw [Around.under_plainId F.plain_reversed_new _]
  unfold Builtin.«reversed.__new__»
  refine wpAny_bind (wpAny_of_eq (newClass_reversed _) ?_)
  try dsimp only
  refine wpAny_bind (wpAny_of_eq (a := ()) (by first | rfl | kernel_rfl) ?_)
  refine wpAny_bind (wpAny_of_eq (a := ()) (by first | rfl | kernel_rfl) ?_)
  try dsimp only
  refine wpAny_bind (wpAny_specialOf hT F.slot_range_reversed.lookup ?_)
  try dsimp only
  refine wpAny_bind (wpAny_of_eq (F.slot_range_reversed.bind _) ?_)
  try dsimp only
  first
  | rw [if_neg (show ¬ ((Value.builtin "range.__reversed__" == Value.none) = true) from Bool.false_ne_true)]
  | (show wpAny _ _ (if (Value.builtin "range.__reversed__" == Value.none) = true then _ else _) _ _ _; rw [if_neg (show ¬ ((Value.builtin "range.__reversed__" == Value.none) = true) from Bool.false_ne_true)])
  refine wpAny_bind (wpAny_rule ?_)
  refine wpAny_bind (m := runValue (.call (.builtin "range.__reversed__") ⟨[.ref r], []⟩)) (show wpAny _ _ (call (.builtin "range.__reversed__") [.ref r]) _ _ _ from call_range_rev hr hn ?_)
  first
  | exact wpAny_pure h
  | exact wpAny_bind (wpAny_pure (wpAny_pure h))
theorem crev_range {sH : Heap} {sG : Array GenState} {sD : Drawn} {sT : Nat} {sO : OsState} {r : Addr} {n : Nat} {Q : Value → Shared → Prop} (Fx : Sx g L sH ns vs nw) (m : (r, isRange 0 n) ∈ nw) (hn : n < 1000000)
    (h : ∀ it h', Sx g L h' ns vs ((it, isRg ((n : Int) - 1) (-1) n 0) :: nw) → Q (.ref it) ⟨h', sG, sD, sT, sO⟩) : wpAny (model prog w) A (call (.type "reversed") [.ref r]) Q E ⟨sH, sG, sD, sT, sO⟩ := by
  obtain ⟨⟨o, e, t, u, v, rfl⟩, _⟩ := Fx.news _ m
  refine callType_other (U := "range_iterator") (Q₁ := fun obj s₁ => obj = .ref sH.objs.size ∧ s₁ = ⟨sH.push (rgObj ((n : Int) - 1) n (-1)), sG, sD, sT, sO⟩) (by decide +kernel) F.create_reversed ⟨_, _, F.mro_reversed⟩ F.made_reversed sub_rgi_reversed (F.typeCall_reversed_1 _)
    (code_reversed_range (show IsRange sH r 0 n 1 t u v from e) hn ⟨rfl, rfl⟩) ?_
  rintro obj s₁ ⟨rfl, rfl⟩
  refine ⟨⟨_, Heap.get?_push_size _ rfl, rfl⟩, h _ _ (Fx.push _ ?_ rfl)⟩
  unfold isRg
  simp
end

section
variable {prog : Program} {w : World} {A : Around} {s : Shared} {g : Heap} {a : Addr} {vs : List Value} {lt : Value → Value → Bool}
theorem tr_l {sH : Heap} {sG : Array GenState} {sD : Drawn} {sT : Nat} {sO : OsState} {E : Value → Shared → Prop} {Q : Bool → Shared → Prop} (hl : Hl sH a vs) (hb : vs.length ≤ 16777216) (h : ∀ u, Q (!vs.isEmpty) ⟨sH, sG, sD, u, sO⟩) : wpAny (model prog w) A (truthy (.ref a)) Q E ⟨sH, sG, sD, sT, sO⟩ :=
  wpAny_truthy_list hl.is (by rw [List.size_toArray]; omega) (by rw [show vs.toArray.isEmpty = vs.isEmpty by simp]; exact h _)
noncomputable def hpush {α : Type} (lt : α → α → Bool) (x : α) (l : List α) : List α := sd lt 0 x (l ++ [x]) l.length
theorem heappush {x : Value} (hA : Ar A 2) (G : Gk w g) (kg : Kp g s.heap) (ga : g.get? a = none) (hl : Hl s.heap a vs)
    (hlen : vs.length < 100) (cmp : ∀ p ∈ vs ++ [x], ∀ q ∈ vs ++ [x], Lk (model prog w) g (compareOp .Lt p q) (.bool (lt p q))) :
    codeAny (model prog w) A (.call (.ref 28) ⟨[.ref a, x], []⟩) (Ends s fun v h => v = .none ∧ KpB a s.heap h ∧ Hl h a (hpush lt x vs)) s := by
  have kg' : Kp g (s.heap.hide a) := kg.hide ga
  have G' := G.kp kg'
  refine enter ["heap", "item"] [] ["_siftdown", "len"] ["heap", "item"] [some (.ref a), some x] (g := s.heap.hide a) (nw := [(a, isL vs)]) hA.room ((fn28 G).kp kg) (G.nolimit.keeps kg) Kp.of_hide
    (by simpa [Heap.hide_self] using hl) (by simp) (by with_unfolding_all rfl) (by with_unfolding_all rfl) rfl (by decide +kernel) (by decide +kernel) (by decide +kernel) rfl rfl (fun env AA h₀ t hAA C F => ?_)
  refine opq fun QQ EE hQQ _ => ?_
  have hA' := hAA (fun a => Ar a _) (hA.deeper env)
  have gn : (s.heap.hide a).get? a = none := Heap.hide_self s.heap a
  refine wpAny_execs_cons <| xpr C <| c_append <| ld F C (by with_reducible repeat (first | exact At.hd | apply At.tl)) ⟨a, vs, rfl, F.isl, ld F C (by with_reducible repeat (first | exact At.hd | apply At.tl)) ⟨vs, F.isl, Nat.le_trans (Nat.le_of_lt hlen) (by decide), fun h1 sb il => ?_⟩⟩
  try dsimp only
  have F1 := F.mut sb il
  refine wpAny_execs_cons <| xpr C <| cdef F1.keep C (g_siftdown G') (fn49 G') <| args_cons <| ld F1 C (by with_reducible repeat (first | exact At.hd | apply At.tl)) <| args_cons <| k_int fun _ _ => args_cons <| wpAny_BinOp <|
    cblt F1.keep C (g_len G') <| args_cons <| ld F1 C (by with_reducible repeat (first | exact At.hd | apply At.tl)) <| args_nil <| len_l F1.isl (by rw [List.length_append]; simp; omega) fun _ _ => k_int fun _ _ => i_sub fun _ _ => args_nil ⟨F1.keep, ?_⟩
  rw [show (((vs ++ [x]).length : Nat) : Int) - 1 = (vs.length : Nat) by rw [List.length_append]; simp]
  refine use (siftdown (start := 0) hA' G' F1.keep gn F1.isl (by rw [List.length_append]; simp; omega) (new := x) (by simp) fun p hp q hq => (cmp p hp q hq).keeps kg') fun v h' t hv => ?_
  obtain ⟨rfl, k, hl'⟩ := hv
  try dsimp only
  exact wpAny_execs_nil (hQQ _ _ ⟨_, _, _, rfl, rfl, rfl, (KpB.of_hide F1.keep).tr k, hl'⟩)

noncomputable def hpopL {α : Type} (lt : α → α → Bool) (pre : List α) (last : α) : List α := match pre with
  | [] => []
  | x :: r => sup lt last (last :: r) 0
noncomputable def hpopV {α : Type} (pre : List α) (last : α) : α := match pre with
  | [] => last
  | x :: _ => x
theorem heappop {pre : List Value} {last : Value} (hA : Ar A 3) (G : Gk w g) (kg : Kp g s.heap) (ga : g.get? a = none) (hl : Hl s.heap a (pre ++ [last]))
    (hlen : pre.length < 100) (cmp : ∀ p ∈ pre ++ [last], ∀ q ∈ pre ++ [last], Lk (model prog w) g (compareOp .Lt p q) (.bool (lt p q))) :
    codeAny (model prog w) A (.call (.ref 35) ⟨[.ref a], []⟩) (Ends s fun v h => v = hpopV pre last ∧ KpB a s.heap h ∧ Hl h a (hpopL lt pre last)) s := by
  have kg' : Kp g (s.heap.hide a) := kg.hide ga
  have G' := G.kp kg'
  refine enter ["heap"] ["lastelt", "returnitem"] ["_siftup"] ["heap", "lastelt", "returnitem"] [some (.ref a), none, none] (g := s.heap.hide a) (nw := [(a, isL (pre ++ [last]))]) hA.room ((fn35 G).kp kg) (G.nolimit.keeps kg) Kp.of_hide
    (by simpa [Heap.hide_self] using hl) (by simp) (by with_unfolding_all rfl) (by with_unfolding_all rfl) rfl (by decide +kernel) (by decide +kernel) (by decide +kernel) rfl rfl (fun env AA h₀ t hAA C F => ?_)
  refine opq fun QQ EE hQQ _ => ?_
  have hA' := hAA (fun a => Ar a _) (hA.deeper env)
  have gn : (s.heap.hide a).get? a = none := Heap.hide_self s.heap a
  refine wpAny_execs_cons <| wpAny_Assign_Name <| c_pop <| ld F C (by with_reducible repeat (first | exact At.hd | apply At.tl)) ⟨a, pre, last, rfl, F.isl, Nat.lt_trans hlen (by decide), fun h1 sb il => ?_⟩
  try dsimp only
  have F1 := F.mut sb il
  refine st F1 C fun h2 t2 F2 => ?_
  try dsimp only
  refine wpAny_execs_cons <| wpAny_If <| isTrue_plain <| ld F2 C (by with_reducible repeat (first | exact At.hd | apply At.tl)) <| tr_l F2.isl (by first | with_reducible assumption | with_reducible exact lt5 (by assumption) | omega) fun u => ?_
  cases pre with
  | nil =>
    rw [if_neg (by simp)]
    refine wpAny_execs_nil ?_
    try dsimp only
    refine wpAny_execs_cons <| wpAny_Return_some <| ld F2 C (by with_reducible repeat (first | exact At.hd | apply At.tl)) ?_
    have il' := F2.isl
    exact hQQ _ _ ⟨_, _, _, rfl, rfl, rfl, KpB.of_hide F2.keep, il'⟩
  | cons x r =>
    rw [if_pos (by simp)]
    refine wpAny_execs_cons <| wpAny_Assign_Name <| Subscript_ <| ld F2 C (by with_reducible repeat (first | exact At.hd | apply At.tl)) <| k_int fun _ _ => item F2.isl (by decide) (by decide) (show (x :: r)[(0 : Int).toNat]? = some x from rfl) <| st F2 C fun h3 t3 F3 => ?_
    try dsimp only
    refine wpAny_execs_cons <| wpAny_Assign_Subscript <| ld F3 C (by with_reducible repeat (first | exact At.hd | apply At.tl)) <| ld F3 C (by with_reducible repeat (first | exact At.hd | apply At.tl)) <| k_int fun _ _ => seti F3.isl (by decide) (by decide) (by simp) fun h4 sb il => ?_
    try dsimp only
    have il' : Hl h4 a (last :: r) := il
    have F4 := F3.mut sb il'
    have e1 : ∀ p ∈ last :: r, p ∈ (x :: r) ++ [last] := fun p hp => by simp at hp ⊢; rcases hp with h | h <;> simp [h]
    refine wpAny_execs_cons <| xpr C <| cdef F4.keep C (g_siftup G') (fn56 G') <| args_cons <| ld F4 C (by with_reducible repeat (first | exact At.hd | apply At.tl)) <| args_cons <| k_int fun _ _ => args_nil ⟨F4.keep, use (siftup (pos := 0) hA' G' F4.keep gn F4.isl (by simpa using Nat.le_of_lt hlen) (new := last) rfl
      fun p hp q hq => (cmp p (e1 p hp) q (e1 q hq)).keeps kg') fun v h' t hv => ?_⟩
    obtain ⟨rfl, k, hl'⟩ := hv
    try dsimp only
    have F5 := F4.mut k hl'
    refine wpAny_execs_cons <| wpAny_Return_some <| ld F5 C (by with_reducible repeat (first | exact At.hd | apply At.tl)) ?_
    have il5 := F5.isl
    exact hQQ _ _ ⟨_, _, _, rfl, rfl, rfl, KpB.of_hide F5.keep, il5⟩

noncomputable def hfy {α : Type} (lt : α → α → Bool) : Nat → List α → List α
  | 0, l => l
  | n + 1, l => hfy lt n (match l[n]? with | some new => sup lt new l n | none => l)
theorem sd_len {α : Type} (lt : α → α → Bool) (start : Nat) (new : α) (l : List α) (pos : Nat) : (sd lt start new l pos).length = l.length := by
  induction pos using Nat.strongRecOn generalizing l with
  | ind pos ih =>
    rw [sd]
    split
    · split
      · split
        · rw [ih _ (by first | with_reducible assumption | with_reducible exact lt5 (by assumption) | omega)]; simp
        · simp
      · rfl
    · simp
theorem sd_mem {α : Type} (lt : α → α → Bool) (start : Nat) (new : α) (l : List α) (pos : Nat) : ∀ x ∈ sd lt start new l pos, x = new ∨ x ∈ l := by
  induction pos using Nat.strongRecOn generalizing l with
  | ind pos ih =>
    rw [sd]
    split
    · split
      · rename_i par hpar
        split
        · intro x hx
          rcases ih _ (by first | with_reducible assumption | with_reducible exact lt5 (by assumption) | omega) _ x hx with h | h
          · exact .inl h
          · rcases List.mem_or_eq_of_mem_set h with h | h
            · exact .inr h
            · exact .inr (h ▸ List.mem_of_getElem? hpar)
        · intro x hx
          rcases List.mem_or_eq_of_mem_set hx with h | h
          · exact .inr h
          · exact .inl h
      · intro x hx; exact .inr hx
    · intro x hx
      rcases List.mem_or_eq_of_mem_set hx with h | h
      · exact .inr h
      · exact .inl h
theorem suL_facts {α : Type} (lt : α → α → Bool) : ∀ (k : Nat) (l : List α) (pos : Nat), l.length - pos = k → (suL lt l pos).1.length = l.length ∧ ∀ x ∈ (suL lt l pos).1, x ∈ l := by
  intro k
  induction k using Nat.strongRecOn with
  | ind k ih =>
    intro l pos hk
    rw [suL]
    split
    · rename_i hc
      have h1 := pick_lt lt l (2 * pos + 1) hc
      have h2 := le_pick lt l (2 * pos + 1) hc
      obtain ⟨a, b⟩ := ih (l.length - pick lt l (2 * pos + 1) hc) (by first | with_reducible assumption | with_reducible exact lt5 (by assumption) | omega) (l.set pos l[pick lt l (2 * pos + 1) hc]) (pick lt l (2 * pos + 1) hc) (by rw [List.length_set])
      refine ⟨by rw [a, List.length_set], fun x hx => ?_⟩
      rcases List.mem_or_eq_of_mem_set (b x hx) with h | h
      · exact h
      · exact h ▸ List.getElem_mem _
    · exact ⟨rfl, fun _ h => h⟩
theorem sup_len {α : Type} (lt : α → α → Bool) (new : α) (l : List α) (pos : Nat) : (sup lt new l pos).length = l.length := by
  unfold sup; rw [sd_len, List.length_set, (suL_facts lt _ l pos rfl).1]
theorem sup_mem {α : Type} (lt : α → α → Bool) (new : α) (l : List α) (pos : Nat) : ∀ x ∈ sup lt new l pos, x = new ∨ x ∈ l := by
  intro x hx
  rcases sd_mem _ _ _ _ _ x hx with h | h
  · exact .inl h
  · rcases List.mem_or_eq_of_mem_set h with h | h
    · exact .inr ((suL_facts lt _ l pos rfl).2 x h)
    · exact .inl h

theorem heapify (hA : Ar A 3) (G : Gk w g) (kg : Kp g s.heap) (ga : g.get? a = none) (hl : Hl s.heap a vs)
    (hlen : vs.length < 100) (cmp : ∀ p ∈ vs, ∀ q ∈ vs, Lk (model prog w) g (compareOp .Lt p q) (.bool (lt p q))) :
    codeAny (model prog w) A (.call (.ref 42) ⟨[.ref a], []⟩) (Ends s fun v h => v = .none ∧ KpB a s.heap h ∧ Hl h a (hfy lt (vs.length / 2) vs)) s := by
  have kg' : Kp g (s.heap.hide a) := kg.hide ga
  have G' := G.kp kg'
  refine enter ["x"] ["n", "i"] ["len", "reversed", "range", "_siftup"] ["x", "n", "i"] [some (.ref a), none, none] (g := s.heap.hide a) (nw := [(a, isL vs)]) hA.room ((fn42 G).kp kg) (G.nolimit.keeps kg) Kp.of_hide
    (by simpa [Heap.hide_self] using hl) (by simp) (by with_unfolding_all rfl) (by with_unfolding_all rfl) rfl (by decide +kernel) (by decide +kernel) (by decide +kernel) rfl rfl (fun env AA h₀ t hAA C F => ?_)
  refine opq fun QQ EE hQQ _ => ?_
  have hA' := hAA (fun a => Ar a _) (hA.deeper env)
  have gn : (s.heap.hide a).get? a = none := Heap.hide_self s.heap a
  refine wpAny_execs_cons <| wpAny_Assign_Name <| cblt F.keep C (g_len G') <| args_cons <| ld F C (by with_reducible repeat (first | exact At.hd | apply At.tl)) <| args_nil <| len_l F.isl (by first | with_reducible assumption | with_reducible exact lt5 (by assumption) | omega) fun kn _ => st F C fun h1 t1 F1 => ?_
  try dsimp only
  refine wpAny_execs_cons <| wpAny_For <| ctyp F1.keep C (g_reversed G') <| args_cons <| ctyp F1.keep C (g_range G') <| args_cons <| wpAny_BinOp <| ld F1 C (by with_reducible repeat (first | exact At.hd | apply At.tl)) <| k_int fun _ _ => i_div (by decide) (by decide) fun _ _ => args_nil ?_
  rw [show ((vs.length : Nat) : Int).fdiv 2 = ((vs.length / 2 : Nat) : Int) by rw [Int.fdiv_eq_ediv_of_nonneg _ (by decide)]; omega]
  refine crange1 F1 fun r h2 t2 F2 => args_nil <| crev_range F2 (by walk_at "mem") (by first | with_reducible assumption | with_reducible exact lt5 (by assumption) | omega) fun it h3 F3 => ?_
  try dsimp only
  refine (gen_range prog w _ _ _).self (F3.news (it, _) List.mem_cons_self).1 ?_
  refine for_in (gen_range prog w ((vs.length / 2 : Nat) - 1) (-1) (vs.length / 2)) (σ := List Value × Option Value) (fun p => [some (.ref a), some (.int vs.length kn), p.2]) (fun p v => [some (.ref a), some (.int vs.length kn), some v])
    (fun p => [(r, isRange 0 (vs.length / 2 : Nat)), (a, isL p.1)]) (fun i p => hfy lt (vs.length / 2 - i) p.1 = hfy lt (vs.length / 2) vs ∧ p.1.length = vs.length ∧ ∀ x ∈ p.1, x ∈ vs) (vs, none) hA'.1 C (fun _ _ => trivial) F3 ⟨rfl, rfl, fun _ h => h⟩
    (fun p v => by walk_at "put") ?_ ?_
  · rintro i ⟨l, oi⟩ v h t hi ⟨hf, ll, hm⟩ ⟨ki, rfl⟩ F4
    refine opq fun Q1 E1 hQ1 _ => ?_
    have e1 : ((vs.length / 2 : Nat) : Int) - 1 + (i : Int) * -1 = ((vs.length / 2 - i - 1 : Nat) : Int) := by omega
    have hlt : vs.length / 2 - i - 1 < l.length := by simp only at ll; omega
    rw [e1] at F4
    try dsimp only at F4 hf ll hm
    rw [show vs.length / 2 - i = (vs.length / 2 - i - 1) + 1 by omega, hfy, List.getElem?_eq_getElem hlt] at hf
    try dsimp only at hf
    refine wpAny_execs_cons <| xpr C <| cdef F4.keep C (g_siftup G') (fn56 G') <| args_cons <| ld F4 C (by with_reducible repeat (first | exact At.hd | apply At.tl)) <| args_cons <| ld F4 C (by with_reducible repeat (first | exact At.hd | apply At.tl)) <| args_nil ⟨F4.keep, use (siftup hA' G' F4.keep gn F4.isl (by first | with_reducible assumption | with_reducible exact lt5 (by assumption) | omega) (List.getElem?_eq_getElem hlt)
      fun p hp q hq => (cmp p (hm p hp) q (hm q hq)).keeps kg') fun v h' t hv => ?_⟩
    obtain ⟨rfl, k, hl'⟩ := hv
    try dsimp only
    have F5 := F4.mut k hl'
    refine wpAny_execs_nil (hQ1 _ _ ⟨_, _, (_, _), rfl, ⟨?_, ?_, fun x hx => ?_⟩, F5⟩)
    · rw [show vs.length / 2 - (i + 1) = vs.length / 2 - i - 1 by omega]; exact hf
    · show (sup ..).length = _
      rw [sup_len]; exact ll
    · rcases sup_mem _ _ _ _ x hx with h | h
      · exact h ▸ hm _ (List.getElem_mem _)
      · exact hm x h
  · rintro ⟨l, oi⟩ h t ⟨hf, _, _⟩ F4
    rw [Nat.sub_self] at hf
    try dsimp only
    refine wpAny_execs_nil ?_
    have il := F4.isl (a := a)
    exact hQQ _ _ ⟨_, _, _, rfl, rfl, rfl, KpB.of_hide F4.keep, hf ▸ il⟩
end

noncomputable def txt (l : List Nat) : Str := ⟨l.toArray⟩
theorem txt_app (a b : List Nat) : txt a ++ txt b = txt (a ++ b) := Str.ext' (by simp [txt, Str.cps_append])
theorem txt_len (a : List Nat) : (txt a).length = a.length := by simp [txt, Str.length]
section
variable {prog : Program} {w : World} {A : Around} {E : Value → Shared → Prop} {s : Shared} {g : Heap}
theorem s_add {sH : Heap} {sG : Array GenState} {sD : Drawn} {sT : Nat} {sO : OsState} {x y : List Nat} {t u : Tok} {Q : Value → Shared → Prop} (hb : x.length + y.length ≤ 16777216) (h : ∀ t k, Q (.str (txt (x ++ y)) t) ⟨sH, sG, sD, k, sO⟩) : wpAny (model prog w) A (binaryOp .Add (.str (txt x) t) (.str (txt y) u)) Q E ⟨sH, sG, sD, sT, sO⟩ :=
  add_str (fun t k => by rw [txt_app]; exact h t k) (by rw [txt_len, txt_len]; exact hb)
theorem s_iadd {sH : Heap} {sG : Array GenState} {sD : Drawn} {sT : Nat} {sO : OsState} {x y : List Nat} {t u : Tok} {Q : Value → Shared → Prop} (hb : x.length + y.length ≤ 16777216) (h : ∀ t k, Q (.str (txt (x ++ y)) t) ⟨sH, sG, sD, k, sO⟩) : wpAny (model prog w) A (inplaceOp .Add (.str (txt x) t) (.str (txt y) u)) Q E ⟨sH, sG, sD, sT, sO⟩ :=
  iadd_str (fun t k => by rw [txt_app]; exact h t k) (by rw [txt_len, txt_len]; exact hb)

theorem ifx_str {M : Model} {env : Env} {test : PySem.Expr} {x y : Str} {k1 k2 p1 p2 pos} {Q : Value → Shared → Prop} (h : wpAny M A (isTrue test env (eval test env)) (fun b s₁ => ∀ t u, Q (.str (if b = true then x else y) t) { s₁ with toks := u }) E s) :
    wpAny M A (eval (.IfExp test (.Constant (.str x) k1 p1) (.Constant (.str y) k2 p2) pos) env) Q E s :=
  IfExp_ (wpAny_mono h (fun b s₁ h₁ => by
    cases b
    · rw [if_neg (by simp)]; exact k_str fun t u => by simpa using h₁ t u
    · rw [if_pos rfl]; exact k_str fun t u => by simpa using h₁ t u) fun _ _ e => e)
noncomputable def leadL (r : Nat) : List Nat := if h : r ≤ 1 then [] else (if r % 2 = 1 then 9 else 32) :: leadL (r / 2)
termination_by r
decreasing_by omega
noncomputable def leadOf (n : Int) : List Nat := leadL ((n.fmod 31).toNat + 1)
theorem law_lead {n : Int} {t : Tok} (hA : Ar A 1) (G : Gk w s.heap) :
    codeAny (model prog w) A (.call (.ref 136) ⟨[.int n t], []⟩) (Ends s fun v h => Kp s.heap h ∧ ∃ t, v = .str (txt (leadOf n)) t) s := by
  refine enter ["number"] ["rest", "lead"] [] ["number", "rest", "lead"] [some (.int n t), none, none] (g := s.heap) (nw := []) hA.room (fn136 G) G.nolimit Kp.rf
    (by simp) (by simp) (by with_unfolding_all rfl) (by with_unfolding_all rfl) rfl (by decide +kernel) (by decide +kernel) (by decide +kernel) rfl rfl (fun env AA h₀ t hAA C F => ?_)
  refine opq fun QQ EE hQQ _ => ?_
  have hm0 : 0 ≤ n.fmod 31 := by rw [Int.fmod_eq_emod_of_nonneg _ (by decide)]; omega
  have hm1 : n.fmod 31 < 31 := by rw [Int.fmod_eq_emod_of_nonneg _ (by decide)]; omega
  refine wpAny_execs_cons <| wpAny_Assign_Name <| wpAny_BinOp <| wpAny_BinOp <| ld F C (by with_reducible repeat (first | exact At.hd | apply At.tl)) <| k_int fun _ _ => i_mod (by decide) fun _ _ => k_int fun _ _ => i_add fun kr _ => st F C fun h1 t1 F1 => ?_
  try dsimp only
  rw [show n.fmod 31 + 1 = (((n.fmod 31).toNat + 1 : Nat) : Int) by omega] at F1
  refine wpAny_execs_cons <| wpAny_Assign_Name <| k_str fun kl _ => st F1 C fun h2 t2 F2 => ?_
  try dsimp only
  rw [show Str.ofString "" = txt [] from rfl] at F2
  refine wpAny_execs_cons (wpAny_While ?_)
  refine codeAny_whileLoop (fun r s' => ∃ h t acc kr kl, s' = { s with heap := h, toks := t } ∧ Sx s.heap env.locals h ["number", "rest", "lead"] [some (.int n _), some (.int (r : Nat) kr), some (.str (txt acc) kl)] [] ∧
    1 ≤ r ∧ acc.length + r ≤ 32 ∧ acc ++ leadL r = leadOf n) ?_ ((n.fmod 31).toNat + 1) ⟨h2, _, [], _, _, rfl, F2, by omega, by simp; omega, rfl⟩
  rintro r s' ⟨h, t, acc, kr, kl, rfl, F, h1, hb, he⟩
  refine opq fun Q1 E1 hQ1 _ => ?_
  refine wpAny_isTrue_Compare1 <| ld F C (by with_reducible repeat (first | exact At.hd | apply At.tl)) <| k_int fun _ _ => i_gt ?_
  refine hQ1 _ _ ?_
  clear hQ1
  by_cases hr : 1 < r
  · rw [if_pos (by simp; omega)]
    refine opq fun Q1 E1 hQ1 _ => ?_
    rw [leadL, dif_neg (by first | with_reducible assumption | with_reducible exact lt5 (by assumption) | omega)] at he
    refine wpAny_execs_cons <| wpAny_AugAssign_Name <| ldn F C (by with_reducible repeat (first | exact At.hd | apply At.tl)) <| ifx_str <| wpAny_isTrue_Compare1 <| wpAny_BinOp <| ld F C (by with_reducible repeat (first | exact At.hd | apply At.tl)) <| k_int fun _ _ => i_mod (by decide) fun _ _ => k_int fun _ _ => i_eq fun kx ux => ?_
    have ex : (if decide ((r : Int).fmod 2 = 1) = true then Str.ofString "\t" else Str.ofString " ") = txt [if r % 2 = 1 then 9 else 32] := by
      rw [Int.fmod_eq_emod_of_nonneg _ (by decide)]
      by_cases q : r % 2 = 1
      · rw [if_pos (by simp; omega), if_pos q]; rfl
      · rw [if_neg (by simp; omega), if_neg q]; rfl
    rw [ex]
    refine s_iadd (by simp; omega) fun kl' _ => st F C fun h1 t1 F1 => ?_
    try dsimp only
    refine wpAny_execs_cons <| wpAny_AugAssign_Name <| ldn F1 C (by with_reducible repeat (first | exact At.hd | apply At.tl)) <| k_int fun _ _ => i_idiv (by decide) (by decide) fun _ _ => st F1 C fun h2 t2 F2 => ?_
    try dsimp only
    rw [show (r : Int).fdiv 2 = ((r / 2 : Nat) : Int) by rw [Int.fdiv_eq_ediv_of_nonneg _ (by decide)]; omega] at F2
    refine wpAny_execs_nil (hQ1 _ _ ⟨r / 2, by omega, h2, _, _, _, _, rfl, F2, by omega, by simp; omega, ?_⟩)
    rw [← he]; simp
  · rw [if_neg (by simp; omega)]
    rw [leadL, dif_pos (by first | with_reducible assumption | with_reducible exact lt5 (by assumption) | omega), List.append_nil] at he
    refine wpAny_execs_nil ?_
    try dsimp only
    refine wpAny_execs_cons <| wpAny_Return_some <| ld F C (by with_reducible repeat (first | exact At.hd | apply At.tl)) ?_
    exact hQQ _ _ ⟨_, _, _, rfl, rfl, F.keep, _, by rw [he]⟩

noncomputable def colStep (size col : Int) (c : Nat) : Int := col + if c = 32 then 1 else size - col.fmod size
noncomputable def colOf (size : Int) (l : List Nat) : Int := l.foldl (colStep size) 0
noncomputable def colsOf (l : List Nat) : List Int := [colOf 1 l, colOf 2 l, colOf 3 l, colOf 4 l, colOf 5 l]
theorem txt_at {x : List Nat} {i c : Nat} (h : (txt x).cps[i]? = some c) : x[i]? = some c := by simpa [txt] using h
theorem str_eq32 (c : Nat) : ((⟨#[c]⟩ : Str) == Str.ofString " ") = decide (c = 32) := by
  have e : Str.ofString " " = ⟨#[32]⟩ := rfl
  rw [e]
  by_cases h : c = 32
  · subst h; rfl
  · rw [decide_eq_false h]
    exact beq_eq_false_iff_ne.mpr fun q => h (by have := congrArg (fun s : Str => s.cps.toList) q; simpa using this)

theorem law_columns {x : List Nat} {t : Tok} (hA : Ar A 1) (G : Gk w s.heap) (hx : x.length ≤ 100) (ha : x.all (· < 128) = true) :
    codeAny (model prog w) A (.call (.ref 143) ⟨[.str (txt x) t], []⟩) (Ends s fun v h => Kp s.heap h ∧ ∃ r vs, v = .ref r ∧ s.heap.get? r = none ∧ Hl h r vs ∧ IntsAre vs (colsOf x)) s := by
  refine enter ["lead"] ["columns", "size", "column", "sign"] ["range"] ["lead", "columns", "size", "column", "sign"] [some (.str (txt x) t), none, none, none, none] (g := s.heap) (nw := []) hA.room (fn143 G) G.nolimit Kp.rf
    (by simp) (by simp) (by with_unfolding_all rfl) (by with_unfolding_all rfl) rfl (by decide +kernel) (by decide +kernel) (by decide +kernel) rfl rfl (fun env AA h₀ t' hAA C F => ?_)
  refine opq fun QQ EE hQQ _ => ?_
  have hA' := hAA (fun a => Ar a _) (hA.deeper env)
  refine wpAny_execs_cons <| wpAny_Assign_Name <| List_ <| args_nil <| n_list F (by simp) fun a h1 F1 => st F1 C fun h2 t2 F2 => ?_
  try dsimp only
  refine wpAny_execs_cons <| wpAny_For <| ctyp F2.keep C (g_range G) <| args_cons <| k_int fun _ _ => args_cons <| k_int fun _ _ => args_nil ?_
  refine crange2 F2 fun r h3 t3 F3 => ?_
  refine iter_range (a := 1) (b := 6) (n := 5) F3 (by walk_at "mem") rfl (by decide) (by decide) (by decide) fun it h4 F4 => ?_
  try dsimp only
  refine for_in (gen_range prog w 1 1 5) (σ := List Value × Option Value × Option Value × Option Value) (fun p => [some (.str (txt x) t), some (.ref a), p.2.1, p.2.2.1, p.2.2.2]) (fun p v => [some (.str (txt x) t), some (.ref a), some v, p.2.2.1, p.2.2.2])
    (fun p => [(r, isRange 1 6), (a, isL p.1)]) (fun i p => IntsAre p.1 ((colsOf x).take i) ∧ p.1.length = i) ([], none, none, none) hA'.1 C (fun _ _ => trivial) F4 ⟨IntsAre.nil, rfl⟩ (fun p v => by walk_at "put") ?_ ?_
  · rintro i ⟨l, o1, o2, o3⟩ v h t'' hi ⟨hf, ll⟩ ⟨ki, rfl⟩ F5
    refine opq fun Q1 E1 hQ1 _ => ?_
    try dsimp only at F5 hf ll
    rw [Int.mul_one] at F5
    refine wpAny_execs_cons <| wpAny_Assign_Name <| k_int fun kc _ => st F5 C fun h6 t6 F6 => ?_
    try dsimp only
    refine wpAny_execs_cons <| wpAny_For <| ld F6 C (by with_reducible repeat (first | exact At.hd | apply At.tl)) <| iter_str F6 (by simpa [txt] using ha) fun it2 h7 F7 => ?_
    try dsimp only
    refine for_in (gen_str prog w (txt x) t) (σ := Int × Tok × Option Value) (fun p => [some (.str (txt x) t), some (.ref a), some (.int (1 + i) ki), some (.int p.1 p.2.1), p.2.2]) (fun p v => [some (.str (txt x) t), some (.ref a), some (.int (1 + i) ki), some (.int p.1 p.2.1), some v])
      (fun p => [(it, isRg 1 1 5 (i + 1)), (r, isRange 1 6), (a, isL l)]) (fun j p => p.1 = colOf (1 + i) (x.take j)) (0, kc, o3) hA'.1 C (fun _ _ => trivial) F7 rfl (fun p v => by walk_at "put") ?_ ?_
    · rintro j ⟨col, kcol, o4⟩ v h8 t8 hj hcol ⟨c, kk, hc, rfl⟩ F8
      refine opq fun Q1 E1 hQ1 _ => ?_
      try dsimp only at F8 hcol
      refine mid (fun s' => ∃ hh tt k, s' = { s with heap := hh, toks := tt } ∧ Sx s.heap env.locals hh ["lead", "columns", "size", "column", "sign"] [some (.str (txt x) t), some (.ref a), some (.int (1 + i) ki), some (.int (colStep (1 + i) col c) k), some (.str ⟨#[c]⟩ kk)]
        [(it2, isSi (txt x) t (j + 1)), (it, isRg 1 1 5 (i + 1)), (r, isRange 1 6), (a, isL l)]) ?_ ?_
      · refine opq fun Q2 E2 hQ2 _ => ?_
        refine wpAny_AugAssign_Name <| ldn F8 C (by with_reducible repeat (first | exact At.hd | apply At.tl)) <| IfExp_ <| wpAny_isTrue_Compare1 <| ld F8 C (by with_reducible repeat (first | exact At.hd | apply At.tl)) <| k_str fun _ _ => eq_str <| wpAny_truthy_bool ?_
        rw [str_eq32]
        by_cases q : c = 32
        · rw [if_pos (by simpa using q)]
          refine k_int fun _ _ => i_iadd fun _ _ => st F8 C fun h9 t9 F9 => ?_
          rw [show col + 1 = colStep (1 + i) col c by simp [colStep, q]] at F9
          exact hQ2 _ _ ⟨rfl, h9, _, _, rfl, F9⟩
        · rw [if_neg (by simpa using q)]
          refine wpAny_BinOp <| ld F8 C (by with_reducible repeat (first | exact At.hd | apply At.tl)) <| wpAny_BinOp <| ld F8 C (by with_reducible repeat (first | exact At.hd | apply At.tl)) <| ld F8 C (by with_reducible repeat (first | exact At.hd | apply At.tl)) <| i_mod (by first | with_reducible assumption | with_reducible exact lt5 (by assumption) | omega) fun _ _ => i_sub fun _ _ => i_iadd fun _ _ => st F8 C fun h9 t9 F9 => ?_
          rw [show col + ((1 + (i : Int)) - col.fmod (1 + i)) = colStep (1 + i) col c by simp [colStep, q]] at F9
          exact hQ2 _ _ ⟨rfl, h9, _, _, rfl, F9⟩
      · rintro s' ⟨h9, t9, k9, rfl, F9⟩
        refine wpAny_execs_nil (hQ1 _ _ ⟨_, _, (_, _, _), rfl, ?_, F9⟩)
        show colStep (1 + i) col c = colOf (1 + i) (x.take (j + 1))
        have hx' := txt_at hc
        rw [List.take_succ, hx', hcol]
        simp [colOf]
    · rintro ⟨col, kcol, o4⟩ h8 t8 hcol F8
      try dsimp only at F8 hcol ⊢
      have hs : (txt x).cps.size = x.length := by simp [txt]
      rw [hs, List.take_length] at hcol
      subst hcol
      refine wpAny_execs_cons <| xpr C <| c_append <| ld F8 C (by with_reducible repeat (first | exact At.hd | apply At.tl)) ⟨a, l, rfl, F8.isl, ld F8 C (by with_reducible repeat (first | exact At.hd | apply At.tl)) ⟨l, F8.isl, by rw [ll]; exact Nat.le_trans (Nat.le_of_lt hi) (by decide), fun h9 sb il => ?_⟩⟩
      try dsimp only
      have F9 := F8.mut sb il
      refine wpAny_execs_nil (hQ1 _ _ ⟨_, _, (_, _, _, _), rfl, ⟨?_, by simp [ll]⟩, F9⟩)
      have e : (colsOf x).take (i + 1) = (colsOf x).take i ++ [colOf (1 + i) x] := by
        have : i = 0 ∨ i = 1 ∨ i = 2 ∨ i = 3 ∨ i = 4 := by omega
        rcases this with rfl | rfl | rfl | rfl | rfl <;> rfl
      rw [e]
      exact hf.append (IntsAre.cons _ _ IntsAre.nil)
  · rintro ⟨l, o1, o2, o3⟩ h t'' ⟨hf, ll⟩ F5
    try dsimp only at F5 ⊢
    refine wpAny_execs_cons <| wpAny_Return_some <| ld F5 C (by with_reducible repeat (first | exact At.hd | apply At.tl)) ?_
    exact hQQ _ _ ⟨_, _, _, rfl, rfl, F5.keep, a, l, rfl, F5.lt (by walk_at "mem"), F5.isl, hf⟩
end

/-! instances -/
inductive Ents : List DictEntry → List (Str × Value) → Prop
  | nil : Ents [] []
  | cons (h : Int) (t : Tok) (n : Str) (v : Value) {es l} : Ents es l → Ents (⟨h, .str n t, v⟩ :: es) ((n, v) :: l)
noncomputable def isNs (l : List (Str × Value)) : Obj → Prop := fun o => ∃ es n, o = dictOf es n ∧ Ents es l
theorem Ents.len {es l} (e : Ents es l) : es.length = l.length := by
  induction e with
  | nil => rfl
  | cons _ _ _ _ _ ih => simp [ih]
theorem Ents.noRef {es l} (e : Ents es l) : es.any (·.refKey) = false := by
  induction e with
  | nil => rfl
  | cons _ _ _ _ _ ih => simp only [List.any_cons, ih]; rfl
theorem Ents.find {es l} (e : Ents es l) (x : Str) : (es.find? (·.key.isStr x)).map (·.val) = l.lookup x := by
  induction e with
  | nil => rfl
  | @cons h t n v es l e ih =>
    by_cases q : n = x
    · subst q
      have : Value.isStr (.str n t) n = true := beq_iff_eq.mpr rfl
      simp [List.find?_cons, this]
    · have q1 : Value.isStr (.str n t) x = false := beq_eq_false_iff_ne.mpr q
      have q2 : (x == n) = false := beq_eq_false_iff_ne.mpr (Ne.symm q)
      simp only [List.find?_cons, q1, List.lookup_cons, q2]; exact ih
theorem Ents.getL {es l} (e : Ents es l) (x : Str) : getL x es = some (l.lookup x) := by
  unfold PySem.W.getL
  rw [← e.find x, e.noRef]
  cases es.find? (·.key.isStr x) <;> rfl
theorem Ents.putL {es l} (e : Ents es l) {x : Str} (hx : x ∉ l.map (·.1)) (hsh : Int) (t : Tok) (v : Value) : Ents (putL x hsh (.str x t) v es) (l ++ [(x, v)]) := by
  induction e with
  | nil => exact .cons _ _ _ _ .nil
  | @cons h t' n v' es l e ih =>
    simp only [List.map_cons, List.mem_cons, not_or] at hx
    have q1 : (n == x) = false := beq_eq_false_iff_ne.mpr (Ne.symm hx.1)
    unfold PySem.W.putL
    show Ents (if (n == x) = true then _ else _) _
    rw [q1, if_neg (by decide)]
    exact .cons _ _ _ _ (ih hx.2)

section
variable {prog : Program} {w : World} {A : Around} {E : Value → Shared → Prop} {s : Shared} {x dx : Addr} {l : List (Str × Value)} {name : Str} {v : Value}
noncomputable def Inst (h : Heap) (x dx : Addr) (l : List (Str × Value)) : Prop := h.get? x = some (instObj 125 dx) ∧ ∃ o, h.get? dx = some o ∧ isNs l o
theorem Inst.kp {h h' : Heap} (I : Inst h x dx l) (k : Kp h h') : Inst h' x dx l := ⟨k _ _ I.1, let ⟨o, e, r⟩ := I.2; ⟨o, k _ _ e, r⟩⟩
theorem Inst.at {h : Heap} (I : Inst h x dx l) : ∃ es n, Ents es l ∧ InstAt h x (instObj 125 dx) 125 (some (dictOf es n)) := by
  obtain ⟨hx, o, e, es, n, rfl, en⟩ := I
  exact ⟨es, n, en, hx, rfl, rfl, e⟩
theorem ws_ga (P : Params) : findIn (KK P) (.ref 125) "__getattribute__" = some (some (.builtin "object.__getattribute__")) := by with_unfolding_all rfl
theorem ws_g (P : Params) : findIn (KK P) (.ref 125) "__getattr__" = some none := by with_unfolding_all rfl
theorem ws_sa (P : Params) : findIn (KK P) (.ref 125) "__setattr__" = some (some (.builtin "object.__setattr__")) := by with_unfolding_all rfl
theorem ws_over (P : Params) : plainOver (KK P) 125 = true := by with_unfolding_all rfl
theorem ws_dict (P : Params) : hasDictIn (KK P) 125 = true := by with_unfolding_all rfl

theorem o_get {sH : Heap} {sG : Array GenState} {sD : Drawn} {sT : Nat} {sO : OsState} {Q : Value → Shared → Prop} {expr : Bool} (G : Gk w sH) (I : Inst sH x dx l) (hl : l.lookup name = some v) (ha : findIn (KK w.params) (.ref 125) name = some none) (hv : handedIn v = true)
    (h : ∀ u, Q v ⟨sH, sG, sD, u, sO⟩) : wpAny (model prog w) A (getAttr (.ref x) name expr) Q E ⟨sH, sG, sD, sT, sO⟩ := by
  obtain ⟨es, n, en, I'⟩ := I.at
  exact get_value G.K I' (ws_ga _) (findObj_own (ws_dict _) ha rfl (by rw [lookIn_dict, en.getL, hl])) hv (h _)
theorem o_set {Q : Unit → Shared → Prop} (G : Gk w s.heap) (I : Inst s.heap x dx l) (hn : name ∉ l.map (·.1)) (hb : l.length ≤ 100) (ht : takerIn (KK w.params) 125 name = some none)
    (h : ∀ h' u, KpB dx s.heap h' → (∃ o, h'.get? dx = some o ∧ isNs (l ++ [(name, v)]) o) → Q () { s with heap := h', toks := u }) : wpAny (model prog w) A (setAttr (.ref x) name v) Q E s := by
  obtain ⟨es, n, en, I'⟩ := I.at
  have D : s.heap.get? dx = some (dictOf es n) := I'.dict
  have hx := I'.at_
  have X := G.K
  obtain ⟨hp, gg, dd, tt, oo⟩ := s
  refine set_plain X I' (ws_sa _) ?_
  refine osa_open X I' (ws_over _) ht fun b => ?_
  obtain ⟨cd, hc, hd'⟩ := any_some (ws_dict w.params)
  refine wpAny_bind (wpAny_pure (wpAny_bind (wpAny_bind (wpAny_loadPart hx (wpAny_bind ((looks_clsIn X hc).at ?_))))))
  rw [hd']
  refine wpAny_pure (a := some dx) (wpAny_bind (wpAny_pure (wpAny_bind ?_)))
  unfold nsSet
  refine wpAny_bind (wpAny_bind (wpAny_askSetting (wpAny_pure (wpAny_bind (wpAny_mkText (wpAny_bind (wpAny_loadPart D ?_)))))))
  have c : (!es.toArray.any (·.key.isStr name) && es.toArray.any (·.refKey)) = false := by
    rw [← Array.any_toList, ← Array.any_toList]
    simp [en.noRef]
  try dsimp only
  rw [aRefKeyMayBeTheName_at, c]
  have ep := en.putL hn (PyData.keyHash w.params name) (tt + 1) v
  have eo := putName_dict name (PyData.keyHash w.params name) (.str name (tt + 1)) v es n
  have D' : (hp.update dx (Obj.putName name (PyData.keyHash w.params name) (.str name (tt + 1)) v)).get? dx = some (dictOf (putL name (PyData.keyHash w.params name) (.str name (tt + 1)) v es) (putN name es n)) := by
    rw [← eo]; exact Heap.get?_update_self _ D (by rw [eo]; rfl)
  refine wpAny_updatePart D ?_
  refine wpAny_bind (wpAny_lookBehind D' (pastItsLine_dict (by rw [List.size_toArray, ep.len, List.length_append, sizeLine_eq]; simp; omega)) ?_)
  exact wpAny_pure (h _ _ (KpB.of_same (Heap.SameBut.update ..)) ⟨_, D', _, _, rfl, ep⟩)
end

/-! more of lists and tuples -/
section
variable {prog : Program} {w : World} {A : Around} {E : Value → Shared → Prop} {s : Shared} {env : Env} {g : Heap} {L : Addr} {ns gs : List Str} {vs : List (Option Value)} {nw : Nw} {a b : Addr} {xs ys : List Value}
theorem l_add {sH : Heap} {sG : Array GenState} {sD : Drawn} {sT : Nat} {sO : OsState} {Q : Value → Shared → Prop} (F : Sx g L sH ns vs nw) (h1 : Hl sH a xs) (h2 : Hl sH b ys) (hz : xs.length + ys.length ≤ 16777216) (h : ∀ c h', Sx g L h' ns vs ((c, isL (xs ++ ys)) :: nw) → Q (.ref c) ⟨h', sG, sD, sT, sO⟩) :
    wpAny (model prog w) A (binaryOp .Add (.ref a) (.ref b)) Q E ⟨sH, sG, sD, sT, sO⟩ := by
  obtain ⟨o, e, n, rfl⟩ := h1
  obtain ⟨o', e', n', rfl⟩ := h2
  refine P.add_list e e' (h _ _ (F.push _ ⟨0, ?_⟩ rfl)) (by rw [List.size_toArray, List.size_toArray]; exact hz)
  simp
theorem l_mul {sH : Heap} {sG : Array GenState} {sD : Drawn} {sT : Nat} {sO : OsState} {x : Int} {u : Tok} {Q : Value → Shared → Prop} (Fx : Sx g L sH ns vs nw) (h1 : Hl sH a xs) (h0 : 0 ≤ x) (hx : x < 1000000) (hz : xs.length * x.toNat ≤ 16777216)
    (h : ∀ c h', Sx g L h' ns vs ((c, isL (List.replicate x.toNat xs).flatten) :: nw) → Q (.ref c) ⟨h', sG, sD, sT, sO⟩) : wpAny (model prog w) A (binaryOp .Mult (.ref a) (.int x u)) Q E ⟨sH, sG, sD, sT, sO⟩ := by
  obtain ⟨o, hl, k, rfl⟩ := h1
  have e := listMul_foldl_if xs.toArray x.toNat
  have F2 := h _ _ (Fx.push (lo (List.replicate x.toNat xs).flatten 0) ⟨0, rfl⟩ rfl)
  refine wpAny_binaryOp_repeat_ref (T := "list") (U := "int") (by decide) ⟨_, hl, rfl⟩ (fun s' => typeIs_int s' x u) noFill_list_mul F.fills_int_mul F.slot_int_rmul repeat_list F.slot_int_index.lookup
    (call_meets F.slot_int_rmul (typeIs_int ⟨sH, sG, sD, sT, sO⟩ x u) F.entry_int_rmul (F.args_int_rmul_2 _ _) (int___rmul___int_list x u a xs.toArray k)
      ⟨hl, rfl, ⟨_, hl, rfl⟩, call_meets F.slot_list_mul ⟨_, hl, rfl⟩ F.entry_list_mul (F.args_list_mul_2 _ _)
        (AutoListH.list___mul___list_int_3 a xs.toArray k x u (by simp [Builtin.List.listFitsIndex]; omega) (by rw [List.size_toArray]; omega) (by rw [List.size_toArray]; simp [Builtin.List.listTooLong, sizeLine]; omega))
        ⟨hl, ?_⟩⟩)
  rw [e]
  exact F2
theorem t_of {sH : Heap} {sG : Array GenState} {sD : Drawn} {sT : Nat} {sO : OsState} {Q : Value → Shared → Prop} (F : Sx g L sH ns vs nw) (h1 : Hl sH a xs) (hz : xs.length ≤ 16777216) (h : ∀ c h', Sx g L h' ns vs ((c, isO (to xs)) :: nw) → Q (.ref c) ⟨h', sG, sD, sT, sO⟩) :
    wpAny (model prog w) A (call (.type "tuple") [.ref a]) Q E ⟨sH, sG, sD, sT, sO⟩ :=
  call_tuple_list h1.is (fun h' k => h _ _ ((F.call k).push _ rfl rfl)) (by rw [List.size_toArray]; exact hz)
theorem unp {sH : Heap} {sG : Array GenState} {sD : Drawn} {sT : Nat} {sO : OsState} {Q : List Value → Shared → Prop} (hh : A.handled = none) (ht : sH.get? a = some (to xs)) (h : ∀ h', Kp sH h' → Q xs ⟨h', sG, sD, sT, sO⟩) (n : Nat) (hn : n = xs.length) : wpAny (model prog w) A (unpackItems (.ref a) n none) Q E ⟨sH, sG, sD, sT, sO⟩ := by
  have e : n = xs.toArray.size := by simpa using hn
  rw [e]
  exact unpackItems_tuple hh ⟨_, ht, rfl, 0, rfl⟩ fun h' k => h h' fun b o e => k b o (Nat.ne_of_lt (Heap.lt_size e)) e
noncomputable def nmF (env : Env) (l : Nat) (e : PySem.Expr) : Option Str := match e with | .Name id pos => (if (env.kindOf id == some .local && pos.line == l) = true then some id else none) | _ => none
theorem swap2 {x y : Str} {p1 p2 tp vp : Pos} {k k2 : Nat} {v1 v2 : PySem.Expr} (C : En env ns gs) (hx : x ∈ ns) (hy : y ∈ ns) (hl : (p2.line == p1.line) = true) (hne : (y == x) = false)
    (hst : ([v1, v2].any fun | .Starred .. => true | _ => false) = false) (hf : ([v1, v2].all (foldedForSure 8)) = false) (hc : ([v1, v2].all (constantsAlone 8)) = false) :
    swappedStores [.Tuple [.Name x p1, .Name y p2] k tp] (.Tuple [v1, v2] k2 vp) env = pure (some [x, y]) := by
  have e1 : env.blockKind = .function := by unfold Env.blockKind; rw [C.kind]; rfl
  have e2 := (C.loc x hx).1
  have e3 := (C.loc y hy).1
  have f1 : (if (env.kindOf x == some .local && p1.line == p1.line) = true then some x else none) = some x := by rw [e2]; exact if_pos (by simp)
  have f2 : (if (env.kindOf y == some .local && p2.line == p1.line) = true then some y else none) = some y := by rw [e3, hl]; exact if_pos rfl
  have hN : ([PySem.Expr.Name x p1, .Name y p2].filterMap (nmF env p1.line)) = [x, y] := by
    refine (List.filterMap_cons_some (f := nmF env p1.line) (l := [.Name y p2]) (a := .Name x p1) f1).trans (congrArg (x :: ·) ((List.filterMap_cons_some (f := nmF env p1.line) (l := []) (a := .Name y p2) f2).trans rfl))
  have ed : ([x, y].eraseDups.length != 2) = false := by
    simp only [List.eraseDups, List.eraseDupsBy, List.eraseDupsBy.loop]
    simp [hne]
  have c1 : ¬ ((!([PySem.Expr.Name x p1, .Name y p2].length == 2 || [PySem.Expr.Name x p1, .Name y p2].length == 3) || [v1, v2].length != [PySem.Expr.Name x p1, .Name y p2].length || env.blockKind != .function) = true) := by
    rw [e1]; exact Bool.false_ne_true
  refine (if_neg c1).trans ((if_neg (fun q => Bool.false_ne_true (hst.symm.trans q))).trans ((if_neg (fun q => ?_)).trans ((if_neg (fun q => Bool.false_ne_true (hf.symm.trans q))).trans ((if_neg (fun q => Bool.false_ne_true (hc.symm.trans q))).trans ?_))))
  · have q' : ((([PySem.Expr.Name x p1, .Name y p2].filterMap (nmF env p1.line)).length != 2) ||
      (([PySem.Expr.Name x p1, .Name y p2].filterMap (nmF env p1.line)).eraseDups.length != ([PySem.Expr.Name x p1, .Name y p2].filterMap (nmF env p1.line)).length)) = true := q
    rw [hN] at q'
    have q2 : ([x, y].eraseDups.length != 2) = true := q'
    rw [ed] at q2
    cases q2
  · exact congrArg (fun l => (pure (some l) : Sem (Option (List Str)))) hN
end

theorem ints_get {vs : List Value} {ns : List Int} (h : IntsAre vs ns) {i : Nat} {c : Int} (hi : ns[i]? = some c) : ∃ t, vs[i]? = some (.int c t) := by
  induction h generalizing i with
  | nil => simp at hi
  | cons n t h ih =>
    cases i with
    | zero => simp at hi; subst hi; exact ⟨t, rfl⟩
    | succ i => exact ih (by simpa using hi)
theorem ints_set {vs : List Value} {ns : List Int} (h : IntsAre vs ns) (i : Nat) (c : Int) (t : Tok) : IntsAre (vs.set i (.int c t)) (ns.set i c) := by
  induction h generalizing i with
  | nil => exact IntsAre.nil
  | cons n t' h ih =>
    cases i with
    | zero => exact IntsAre.cons _ _ h
    | succ i => exact IntsAre.cons _ _ (ih i)
theorem ints_len {vs : List Value} {ns : List Int} (h : IntsAre vs ns) : vs.length = ns.length := by
  induction h with
  | nil => rfl
  | cons _ _ _ ih => simp [ih]
theorem ints_rep (k : Nat) (c : Int) (t : Tok) : IntsAre (List.replicate k [Value.int c t]).flatten (List.replicate k c) := by
  induction k with
  | zero => exact IntsAre.nil
  | succ k ih => exact IntsAre.cons _ _ ih
theorem str_eq9 (c : Nat) : ((⟨#[c]⟩ : Str) == Str.ofString "\t") = decide (c = 9) := by
  have e : Str.ofString "\t" = ⟨#[9]⟩ := rfl
  rw [e]
  by_cases h : c = 9
  · subst h; rfl
  · rw [decide_eq_false h]
    exact beq_eq_false_iff_ne.mpr fun q => h (by have := congrArg (fun s : Str => s.cps.toList) q; simpa using this)

noncomputable def ext (cs : List Int) (b : Nat) : List Int := if cs.length ≤ b then cs ++ List.replicate (b - cs.length + 1) 0 else cs
theorem ext_len (cs : List Int) (b : Nat) : b < (ext cs b).length ∧ (ext cs b).length ≤ cs.length + b + 1 := by
  unfold ext; split
  · simp; omega
  · omega
noncomputable def bump (cs : List Int) (b : Nat) : List Int := (ext cs b).set b ((ext cs b).getD b 0 + 1)
structure Ws where
  b : Nat
  n : Nat
  nt : Nat
  cs : List Int
noncomputable def wsF : List Nat → Ws → Ws
  | [], d => d
  | c :: r, d => if c = 32 then wsF r ⟨d.b + 1, d.n + 1, d.nt, d.cs⟩ else if c = 9 then wsF r ⟨0, d.n + 1, d.nt + 1, bump d.cs d.b⟩ else d
noncomputable def wsOf (l : List Nat) : Ws := wsF l ⟨0, 0, 0, []⟩

section
variable {prog : Program} {w : World} {A : Around} {E : Value → Shared → Prop} {s : Shared} {g : Heap}
theorem aio_r {M : Model} {env : Env} {x y : Str} {a b : Value} {Q : Unit → Shared → Prop} (h : wpAny M A (storeName env y b) (fun _ s₁ => wpAny M A (storeName env x a) Q E s₁) E s) :
    wpAny M A (assignInOrder ([x, y].reverse.map fun n => bindName env n) [a, b].reverse) Q E s :=
  wpAny_bind (wpAny_holding (bindName_ (wpAny_mono h (fun _ s₁ h₁ => wpAny_bind (wpAny_holding (bindName_ (wpAny_mono h₁ (fun _ _ h₂ => wpAny_pure h₂) fun _ _ e => e)))) fun _ _ e => e)))
theorem c_S {Q : Value → Shared → Prop} {expr : Bool} (G : Gk w s.heap) (h : ∀ u, Q (.str " " 278) { s with toks := u }) : wpAny (model prog w) A (getAttr (.ref 125) "S" expr) Q E s :=
  cls_value (mc := .type "type") G.K (by with_unfolding_all rfl) (by with_unfolding_all rfl) rfl (h _)
theorem c_T {Q : Value → Shared → Prop} {expr : Bool} (G : Gk w s.heap) (h : ∀ u, Q (.str "\t" 279) { s with toks := u }) : wpAny (model prog w) A (getAttr (.ref 125) "T" expr) Q E s :=
  cls_value (mc := .type "type") G.K (by with_unfolding_all rfl) (by with_unfolding_all rfl) rfl (h _)
theorem ws_init {x dx : Addr} {ws : List Nat} {t : Tok} (hA : Ar A 1) (G : Gk w g) (kg : Kp g s.heap) (gd : g.get? dx = none) (I : Inst s.heap x dx []) (hne : x ≠ dx) (hw : ws.length ≤ 100) (ha : ws.all (· < 128) = true) :
    codeAny (model prog w) A (.call (.ref 80) ⟨[.ref x, .str (txt ws) t], []⟩) (Ends s fun v h => v = .none ∧ KpB dx s.heap h ∧ ∃ k1 k2 k3 p q qs,
      (∃ o, h.get? dx = some o ∧ isNs [("raw", .str (txt ws) t), ("n", .int (wsOf ws).n k1), ("nt", .int (wsOf ws).nt k2), ("norm", .ref p), ("is_simple", .bool (decide (((wsOf ws).cs.length : Int) ≤ 1)))] o) ∧
      h.get? p = some (to [.ref q, .int (wsOf ws).b k3]) ∧ h.get? q = some (to qs) ∧ IntsAre qs (wsOf ws).cs ∧ s.heap.get? p = none ∧ s.heap.get? q = none) s := by
  have kg' : Kp g (s.heap.hide dx) := kg.hide gd
  have G' := G.kp kg'
  have hxg : (s.heap.hide dx).get? x = some (instObj 125 dx) := (Heap.hide_ne s.heap hne).trans I.1
  refine enter ["self", "ws"] ["S", "T", "count", "b", "n", "nt", "ch"] ["Whitespace", "len", "tuple"] ["self", "ws", "S", "T", "count", "b", "n", "nt", "ch"]
    [some (.ref x), some (.str (txt ws) t), none, none, none, none, none, none, none] (g := s.heap.hide dx) (nw := [(dx, isNs [])]) hA.room ((fn80 G).kp kg) (G.nolimit.keeps kg) Kp.of_hide
    (by simpa [Heap.hide_self] using I.2) (by simp) (by with_unfolding_all rfl) (by with_unfolding_all rfl) rfl (by decide +kernel) (by decide +kernel) (by decide +kernel) rfl rfl (fun env AA h₀ t₀ hAA C F => ?_)
  refine opq fun QQ EE hQQ _ => ?_
  have hA' := hAA (fun a => Ar a _) (hA.deeper env)
  refine wpAny_execs_cons <| plainObj_wpAny_Assign_Attribute <| ld F C (by with_reducible repeat (first | exact At.hd | apply At.tl)) <| ld F C (by with_reducible repeat (first | exact At.hd | apply At.tl)) <| o_set (l := []) (G'.kp F.keep) ⟨F.keep _ _ hxg, (F.news (dx, _) List.mem_cons_self).1⟩ (by simp) (by simp) (by with_unfolding_all rfl) fun h1 t1 kb ho => ?_
  try dsimp only
  have F1 := F.mut kb ho
  refine wpAny_execs_cons <| Assign_Tuple_swapped (names := ["S", "T"]) (Tuple_ <| args_cons <| Attribute_Name_ <| gl F1.keep C (g_ws G') <| c_S (G'.kp F1.keep) fun _ => args_cons <| Attribute_Name_ <| gl F1.keep C (g_ws G') <| c_T (G'.kp F1.keep) fun _ => args_nil ?_) rfl
    (swap2 C (by simp) (by simp) (by decide) (by decide) (by rfl) (by decide +kernel) (by decide +kernel))
  refine n_tuple F1 (by simp) fun a2 h2 F2 => unp hA'.1 ((F2.news (a2, _) List.mem_cons_self).1.elim fun o h => h.2 ▸ h.1) (fun h3 k3 => ?_) _ rfl
  have F3 := (F2.call k3).drop
  refine aio_r <| st F3 C fun h4 t4 F4 => ?_
  refine st F4 C fun h5 t5 F5 => ?_
  try dsimp only
  refine wpAny_execs_cons <| wpAny_Assign_Name <| List_ <| args_nil <| n_list F5 (by simp) fun c h6 F6 => st F6 C fun h7 t7 F7 => ?_
  try dsimp only
  refine wpAny_execs_cons <| wpAny_Assign_three <| k_int fun k0 _ => assign_Name <| st F7 C fun h8 t8 F8 => ?_
  refine assign_Name <| st F8 C fun h9 t9 F9 => ?_
  refine assign_Name <| st F9 C fun h10 t10 F10 => ?_
  try dsimp only
  have nsl : ([] ++ [((Str.ofString "raw"), Value.str (txt ws) t)] : List (Str × Value)) = [(Str.ofString "raw", Value.str (txt ws) t)] := rfl
  rw [nsl] at F10
  refine mid (fun s' => ∃ h t' c cv kb kn kt och, s' = { s with heap := h, toks := t' } ∧ IntsAre cv (wsOf ws).cs ∧ (wsOf ws).cs.length ≤ 20000 ∧
    Sx (s.heap.hide dx) env.locals h ["self", "ws", "S", "T", "count", "b", "n", "nt", "ch"] [some (.ref x), some (.str (txt ws) t), some (.str " " 278), some (.str "\t" 279), some (.ref c), some (.int (wsOf ws).b kb), some (.int (wsOf ws).n kn), some (.int (wsOf ws).nt kt), och]
      [(c, isL cv), (dx, isNs [("raw", .str (txt ws) t)])]) ?_ ?_
  · refine opq fun Q3 E3 hQ3 _ => ?_
    refine wpAny_For <| Attribute_Name_ <| ld F10 C (by with_reducible repeat (first | exact At.hd | apply At.tl)) <| o_get (l := [("raw", .str (txt ws) t)]) (G'.kp F10.keep) ⟨F10.keep _ _ hxg, (F10.news (dx, isNs [("raw", .str (txt ws) t)]) (by walk_at "mem")).1⟩ rfl (by with_unfolding_all rfl) rfl fun u => iter_str F10 (by simpa [txt] using ha) fun it h11 F11 => ?_
    try dsimp only
    refine for_in (gen_str prog w (txt ws) t) (σ := Ws × (Tok × Tok × Tok) × Addr × List Value × Option Value)
      (fun p => [some (.ref x), some (.str (txt ws) t), some (.str " " 278), some (.str "\t" 279), some (.ref p.2.2.1), some (.int p.1.b p.2.1.1), some (.int p.1.n p.2.1.2.1), some (.int p.1.nt p.2.1.2.2), p.2.2.2.2])
      (fun p v => [some (.ref x), some (.str (txt ws) t), some (.str " " 278), some (.str "\t" 279), some (.ref p.2.2.1), some (.int p.1.b p.2.1.1), some (.int p.1.n p.2.1.2.1), some (.int p.1.nt p.2.1.2.2), some v])
      (fun p => [(p.2.2.1, isL p.2.2.2.1), (dx, isNs [("raw", .str (txt ws) t)])])
      (fun i p => wsOf ws = wsF (ws.drop i) p.1 ∧ IntsAre p.2.2.2.1 p.1.cs ∧ p.1.b ≤ i ∧ p.1.cs.length ≤ i * 101 ∧ i ≤ 100) (⟨0, 0, 0, []⟩, (k0, k0, k0), c, [], none) hA'.1 C (fun _ _ => trivial) F11 ⟨rfl, IntsAre.nil, Nat.le_refl _, Nat.le_refl _, by omega⟩ (fun p v => by walk_at "put") ?_ ?_
    · rintro i ⟨⟨b, n, nt, cs⟩, ⟨kb, kn, kt⟩, c, cv, och⟩ v h12 t12 hi ⟨hf, hcv, hbi, hci, hi1⟩ ⟨ch, kc, hc, rfl⟩ F12
      refine opq fun Q1 E1 hQ1 _ => ?_
      try dsimp only at F12 hf hcv hbi hci
      have hc' := txt_at hc
      have hil : i < ws.length := (List.getElem?_eq_some_iff.mp hc').1
      have hd : ws.drop i = ch :: ws.drop (i + 1) := by
        rw [List.drop_eq_getElem_cons hil]
        rw [List.getElem?_eq_getElem hil] at hc'
        simp only [Option.some.injEq] at hc'
        rw [hc']
      rw [hd, wsF] at hf
      refine wpAny_execs_cons <| wpAny_If <| wpAny_isTrue_Compare1 <| ld F12 C (by with_reducible repeat (first | exact At.hd | apply At.tl)) <| ld F12 C (by with_reducible repeat (first | exact At.hd | apply At.tl)) <| eq_str <| wpAny_truthy_bool ?_
      rw [str_eq32]
      by_cases q : ch = 32
      · rw [if_pos (by simpa using q)]
        rw [if_pos q] at hf
        refine wpAny_execs_cons <| wpAny_Assign_Name <| wpAny_BinOp <| ld F12 C (by with_reducible repeat (first | exact At.hd | apply At.tl)) <| k_int fun _ _ => i_add fun _ _ => st F12 C fun h13 t13 F13 => ?_
        try dsimp only
        refine wpAny_execs_cons <| wpAny_Assign_Name <| wpAny_BinOp <| ld F13 C (by with_reducible repeat (first | exact At.hd | apply At.tl)) <| k_int fun _ _ => i_add fun _ _ => st F13 C fun h14 t14 F14 => ?_
        try dsimp only
        refine wpAny_execs_nil ?_
        try dsimp only
        exact wpAny_execs_nil (hQ1 _ _ ⟨_, _, (⟨b + 1, n + 1, nt, cs⟩, (_, _, _), _, _, _), rfl, ⟨hf, hcv, by dsimp only; omega, by dsimp only; omega, by omega⟩, F14⟩)
      · rw [if_neg (by simpa using q)]
        rw [if_neg q] at hf
        refine wpAny_execs_cons <| wpAny_If <| wpAny_isTrue_Compare1 <| ld F12 C (by with_reducible repeat (first | exact At.hd | apply At.tl)) <| ld F12 C (by with_reducible repeat (first | exact At.hd | apply At.tl)) <| eq_str <| wpAny_truthy_bool ?_
        rw [str_eq9]
        by_cases q9 : ch = 9
        · rw [if_pos (by simpa using q9)]
          rw [if_pos q9] at hf
          refine wpAny_execs_cons <| wpAny_Assign_Name <| wpAny_BinOp <| ld F12 C (by with_reducible repeat (first | exact At.hd | apply At.tl)) <| k_int fun _ _ => i_add fun _ _ => st F12 C fun h13 t13 F13 => ?_
          try dsimp only
          refine wpAny_execs_cons <| wpAny_Assign_Name <| wpAny_BinOp <| ld F13 C (by with_reducible repeat (first | exact At.hd | apply At.tl)) <| k_int fun _ _ => i_add fun _ _ => st F13 C fun h14 t14 F14 => ?_
          try dsimp only
          have hcl := ints_len hcv
          have hex := ext_len cs b
          refine mid (fun s' => ∃ h t' c' cv' k1 k2, s' = { s with heap := h, toks := t' } ∧ IntsAre cv' (ext cs b) ∧
            Sx (s.heap.hide dx) env.locals h ["self", "ws", "S", "T", "count", "b", "n", "nt", "ch"] [some (.ref x), some (.str (txt ws) t), some (.str " " 278), some (.str "\t" 279), some (.ref c'), some (.int b kb), some (.int ((n + 1 : Nat) : Int) k1), some (.int ((nt + 1 : Nat) : Int) k2), some (.str ⟨#[ch]⟩ kc)]
              [(it, isSi (txt ws) t (i + 1)), (c', isL cv'), (dx, isNs [("raw", .str (txt ws) t)])]) ?_ ?_
          · refine opq fun Q2 E2 hQ2 _ => ?_
            refine wpAny_If <| wpAny_isTrue_Compare1 <| ld F14 C (by with_reducible repeat (first | exact At.hd | apply At.tl)) <| cblt F14.keep C (g_len G') <| args_cons <| ld F14 C (by with_reducible repeat (first | exact At.hd | apply At.tl)) <| args_nil <| len_l F14.isl (by first | with_reducible assumption | with_reducible exact lt5 (by assumption) | omega) fun _ _ => i_ge ?_
            by_cases hge : cs.length ≤ b
            · rw [if_pos (by simp; omega)]
              refine wpAny_execs_cons <| wpAny_Assign_Name <| wpAny_BinOp <| ld F14 C (by with_reducible repeat (first | exact At.hd | apply At.tl)) <| wpAny_BinOp <| List_ <| args_cons <| k_int fun kz _ => args_nil <| n_list F14 (by simp) fun z h15 F15 => ?_
              refine wpAny_BinOp <| wpAny_BinOp <| ld F15 C (by with_reducible repeat (first | exact At.hd | apply At.tl)) <| cblt F15.keep C (g_len G') <| args_cons <| ld F15 C (by with_reducible repeat (first | exact At.hd | apply At.tl)) <| args_nil <| len_l (F15.isl (a := c)) (by first | with_reducible assumption | with_reducible exact lt5 (by assumption) | omega) fun _ _ => i_sub fun _ _ => k_int fun _ _ => i_add fun _ _ => ?_
              refine l_mul F15 (F15.isl (a := z)) (by first | with_reducible assumption | with_reducible exact lt5 (by assumption) | omega) (by first | with_reducible assumption | with_reducible exact lt5 (by assumption) | omega) (by simp; omega) fun m h16 F16 => ?_
              refine l_add F16 (F16.isl (a := c)) (F16.isl (a := m)) (by simp; omega) fun c' h17 F17 => ?_
              refine st F17 C fun h18 t18 F18 => ?_
              try dsimp only
              have nd := F18.nd
              refine wpAny_execs_nil <| hQ2 _ _ ⟨rfl, _, _, c', _, _, _, rfl, ?_, F18.pick (nw' := [(it, isSi (txt ws) t (i + 1)), (c', isL (cv ++ (List.replicate ((b : Int) - cv.length + 1).toNat [Value.int 0 kz]).flatten)), (dx, isNs [("raw", .str (txt ws) t)])]) ?_ ?_⟩
              · have e : ((b : Int) - (cv.length : Nat) + 1).toNat = b - cs.length + 1 := by omega
                rw [e]
                unfold ext
                rw [if_pos hge]
                exact hcv.append (ints_rep _ _ _)
              · intro p hp
                simp only [List.mem_cons, List.not_mem_nil, or_false] at hp ⊢
                rcases hp with rfl | rfl | rfl <;> simp
              · simp only [List.map_cons, List.map_nil, List.nodup_cons, List.mem_cons, List.not_mem_nil, or_false, not_or, not_false_eq_true, List.nodup_nil, and_true] at nd ⊢
                grind
            · rw [if_neg (by simp; omega)]
              refine wpAny_execs_nil <| hQ2 _ _ ⟨rfl, _, _, c, cv, _, _, rfl, ?_, F14⟩
              unfold ext
              rw [if_neg hge]; exact hcv
          · rintro s' ⟨h15, t15, c', cv', k1, k2, rfl, hcv', F15⟩
            have hg : (ext cs b)[b]? = some ((ext cs b).getD b 0) := by
              rw [List.getD_eq_getElem?_getD, List.getElem?_eq_getElem hex.1]; rfl
            obtain ⟨kv, hv⟩ := ints_get hcv' hg
            have hcl' := ints_len hcv'
            refine wpAny_execs_cons <| wpAny_Assign_Subscript <| wpAny_BinOp <| Subscript_ <| ld F15 C (by with_reducible repeat (first | exact At.hd | apply At.tl)) <| ld F15 C (by with_reducible repeat (first | exact At.hd | apply At.tl)) <| itemn F15.isl (by first | with_reducible assumption | with_reducible exact lt5 (by assumption) | omega) hv <| k_int fun _ _ => i_add fun _ _ => ld F15 C (by with_reducible repeat (first | exact At.hd | apply At.tl)) <| ld F15 C (by with_reducible repeat (first | exact At.hd | apply At.tl)) <| setn F15.isl (by first | with_reducible assumption | with_reducible exact lt5 (by assumption) | omega) (by first | with_reducible assumption | with_reducible exact lt5 (by assumption) | omega) fun h16 sb il => ?_
            try dsimp only
            have F16 := F15.mut sb il
            refine wpAny_execs_cons <| wpAny_Assign_Name <| k_int fun _ _ => st F16 C fun h17 t17 F17 => ?_
            try dsimp only
            refine wpAny_execs_nil ?_
            try dsimp only
            refine wpAny_execs_nil ?_
            try dsimp only
            refine wpAny_execs_nil <| hQ1 _ _ ⟨_, _, (⟨0, n + 1, nt + 1, bump cs b⟩, (_, _, _), _, _, _), rfl, ⟨hf, ints_set hcv' _ _ _, by dsimp only; omega, ?_, by omega⟩, F17⟩
            try dsimp only
            unfold bump
            rw [List.length_set]; omega
        · rw [if_neg (by simpa using q9)]
          rw [if_neg q9] at hf
          refine wpAny_execs_cons <| SiftDown.break_ ?_
          try dsimp only
          have F13 := F12.drop
          refine hQ1 _ _ (hQ3 _ _ ?_)
          refine ⟨rfl, _, _, c, cv, kb, kn, kt, some (.str ⟨#[ch]⟩ kc), rfl, ?_, ?_, ?_⟩
          · rw [hf]; exact hcv
          · rw [hf]; dsimp only; omega
          · rw [hf]; exact F13
    · rintro ⟨⟨b, n, nt, cs⟩, ⟨kb, kn, kt⟩, c, cv, och⟩ h12 t12 ⟨hf, hcv, hbi, hci, _⟩ F12
      try dsimp only at F12 hf hcv hbi hci
      have hs : (txt ws).cps.size = ws.length := by simp [txt]
      rw [hs, List.drop_length, wsF] at hf
      rw [hs] at hci
      refine hQ3 _ _ ?_
      refine ⟨rfl, _, _, c, cv, kb, kn, kt, och, rfl, ?_, ?_, ?_⟩
      · rw [hf]; exact hcv
      · rw [hf]; dsimp only; omega
      · rw [hf]; exact F12
  · rintro s' ⟨h11, t11, c, cv, kbb, kn, kt, och, rfl, hcv, hcl, F11⟩
    have hcl' := ints_len hcv
    have nn : ∀ {P : Prop}, P → P := fun h => h
    refine wpAny_execs_cons <| plainObj_wpAny_Assign_Attribute <| ld F11 C (by with_reducible repeat (first | exact At.hd | apply At.tl)) <| ld F11 C (by with_reducible repeat (first | exact At.hd | apply At.tl)) <| o_set (l := [("raw", .str (txt ws) t)]) (G'.kp F11.keep) ⟨F11.keep _ _ hxg, (F11.news (dx, isNs [("raw", .str (txt ws) t)]) (by walk_at "mem")).1⟩
      (by simp only [List.map_cons, List.map_nil]; decide) (by simp) (by with_unfolding_all rfl) fun h12 t12 kb ho => ?_
    try dsimp only
    have F12 := F11.mut kb ho
    simp only [List.cons_append, List.nil_append] at F12
    refine wpAny_execs_cons <| plainObj_wpAny_Assign_Attribute <| ld F12 C (by with_reducible repeat (first | exact At.hd | apply At.tl)) <| ld F12 C (by with_reducible repeat (first | exact At.hd | apply At.tl)) <| o_set (l := [("raw", .str (txt ws) t), ("n", .int (wsOf ws).n kn)]) (G'.kp F12.keep) ⟨F12.keep _ _ hxg, (F12.news (dx, isNs [("raw", .str (txt ws) t), ("n", .int (wsOf ws).n kn)]) (by walk_at "mem")).1⟩
      (by simp only [List.map_cons, List.map_nil]; decide) (by simp) (by with_unfolding_all rfl) fun h13 t13 kb ho => ?_
    try dsimp only
    have F13 := F12.mut kb ho
    simp only [List.cons_append, List.nil_append] at F13
    refine wpAny_execs_cons <| plainObj_wpAny_Assign_Attribute <| Tuple_ <| args_cons <| ctyp F13.keep C (g_tuple G') <| args_cons <| ld F13 C (by with_reducible repeat (first | exact At.hd | apply At.tl)) <| args_nil <| t_of F13 F13.isl (by first | with_reducible assumption | with_reducible exact lt5 (by assumption) | omega) fun q h14 F14 => args_cons ?_
    refine ld F14 C (by with_reducible repeat (first | exact At.hd | apply At.tl)) <| args_nil <| n_tuple F14 (by simp) fun p h15 F15 => ?_
    refine ld F15 C (by with_reducible repeat (first | exact At.hd | apply At.tl)) <| o_set (l := [("raw", .str (txt ws) t), ("n", .int (wsOf ws).n kn), ("nt", .int (wsOf ws).nt kt)]) (G'.kp F15.keep) ⟨F15.keep _ _ hxg, (F15.news (dx, isNs [("raw", .str (txt ws) t), ("n", .int (wsOf ws).n kn), ("nt", .int (wsOf ws).nt kt)]) (by walk_at "mem")).1⟩
      (by simp only [List.map_cons, List.map_nil]; decide) (by simp) (by with_unfolding_all rfl) fun h16 t16 kb ho => ?_
    try dsimp only
    have F16 := F15.mut kb ho
    simp only [List.cons_append, List.nil_append] at F16
    refine wpAny_execs_cons <| plainObj_wpAny_Assign_Attribute <| wpAny_Compare1 <| cblt F16.keep C (g_len G') <| args_cons <| ld F16 C (by with_reducible repeat (first | exact At.hd | apply At.tl)) <| args_nil <| len_l F16.isl (by first | with_reducible assumption | with_reducible exact lt5 (by assumption) | omega) fun _ _ => k_int fun _ _ => PyProof.Rows.le_int <| ld F16 C (by with_reducible repeat (first | exact At.hd | apply At.tl)) <|
      o_set (l := [("raw", .str (txt ws) t), ("n", .int (wsOf ws).n kn), ("nt", .int (wsOf ws).nt kt), ("norm", .ref p)]) (G'.kp F16.keep) ⟨F16.keep _ _ hxg, (F16.news (dx, isNs [("raw", .str (txt ws) t), ("n", .int (wsOf ws).n kn), ("nt", .int (wsOf ws).nt kt), ("norm", .ref p)]) (by walk_at "mem")).1⟩
      (by simp only [List.map_cons, List.map_nil]; decide) (by simp) (by with_unfolding_all rfl) fun h17 t17 kb ho => ?_
    try dsimp only
    have F17 := F16.mut kb ho
    simp only [List.cons_append, List.nil_append] at F17
    rw [hcl'] at F17
    have nd := F17.nd
    simp only [List.map_cons, List.map_nil, List.nodup_cons, List.mem_cons, List.not_mem_nil, or_false, not_or, not_false_eq_true, List.nodup_nil, and_true] at nd
    refine wpAny_execs_nil (hQQ _ _ ⟨_, _, _, rfl, rfl, rfl, KpB.of_hide F17.keep, kn, kt, kbb, p, q, cv, (F17.news (dx, _) (List.mem_cons_of_mem _ (List.mem_cons_of_mem _ (List.mem_cons_of_mem _ List.mem_cons_self)))).1, ?_, ?_, hcv, ?_, ?_⟩)
    · obtain ⟨o, e, r⟩ := (F17.news (p, isO _) List.mem_cons_self).1
      rw [e, r]
    · obtain ⟨o, e, r⟩ := (F17.news (q, isO _) (List.mem_cons_of_mem _ List.mem_cons_self)).1
      rw [e, r]
    · exact (Heap.hide_ne s.heap (show p ≠ dx by grind)).symm.trans (F17.news (p, isO _) List.mem_cons_self).2.2
    · exact (Heap.hide_ne s.heap (show q ≠ dx by grind)).symm.trans (F17.news (q, isO _) (List.mem_cons_of_mem _ List.mem_cons_self)).2.2
end

noncomputable def WsAt (h : Heap) (x : Addr) (d : Ws) : Prop := ∃ dx raw k1 k2 k3 p q qs, Inst h x dx [("raw", raw), ("n", .int d.n k1), ("nt", .int d.nt k2), ("norm", .ref p), ("is_simple", .bool (decide ((d.cs.length : Int) ≤ 1)))] ∧
  h.get? p = some (to [.ref q, .int d.b k3]) ∧ h.get? q = some (to qs) ∧ IntsAre qs d.cs
theorem WsAt.kp {h h' : Heap} {x : Addr} {d : Ws} (W : WsAt h x d) (k : Kp h h') : WsAt h' x d := by
  obtain ⟨dx, raw, k1, k2, k3, p, q, qs, I, hp, hq, hi⟩ := W
  exact ⟨dx, raw, k1, k2, k3, p, q, qs, I.kp k, k _ _ hp, k _ _ hq, hi⟩
noncomputable def Small (d : Ws) : Bool := decide (d.b ≤ 100) && decide (d.n ≤ 100) && decide (d.nt ≤ 100) && decide (d.cs.length ≤ 100) && d.cs.all fun c => decide (0 ≤ c) && decide (c ≤ 100)
section
variable {prog : Program} {w : World} {A : Around} {E : Value → Shared → Prop} {s : Shared} {g : Heap}
theorem Ar.making {d : Nat} (x : Ar A (d + 1)) (rest : List Value) : Ar (A.under (.builtin "type.__call__" ⟨.ref 125 :: rest, []⟩)) d := by
  have e1 : (A.under (.builtin "type.__call__" ⟨.ref 125 :: rest, []⟩)).depth = A.depth + 1 := rfl
  have e2 : (A.under (.builtin "type.__call__" ⟨.ref 125 :: rest, []⟩)).units ≤ A.units + 3 := by
    have : Code.cUnits (.builtin "type.__call__" ⟨.ref 125 :: rest, []⟩) = 1 := rfl
    show A.units + Code.cUnits (.builtin "type.__call__" ⟨.ref 125 :: rest, []⟩) ≤ _
    rw [this]; omega
  exact ⟨x.1, by rw [e1]; have := x.2.1; omega, by have := x.2.2; omega⟩
theorem ws_make {ws : List Nat} {t : Tok} (hA : Ar A 2) (G : Gk w s.heap) (hw : ws.length ≤ 100) (ha : ws.all (· < 128) = true) :
    codeAny (model prog w) A (.call (.ref 125) ⟨[.str (txt ws) t], []⟩) (Ends s fun v h => Kp s.heap h ∧ ∃ x, v = .ref x ∧ ∀ B', (∀ b o, s.heap.get? b = none → h.get? b = some o → B'.get? b = some o) → WsAt B' x (wsOf ws)) s := by
  obtain ⟨h, gg, d, tt, os⟩ := s
  have k1 : Kp h (h.push emptyDict) := fun b o e => Heap.get?_push_of_some _ e
  have k2 : Kp (h.push emptyDict) ((h.push emptyDict).push (instObj 125 h.objs.size)) := fun b o e => Heap.get?_push_of_some _ e
  have hn : h.get? h.objs.size = none := by
    cases q : h.get? h.objs.size with
    | none => rfl
    | some o => exact absurd (Heap.lt_size q) (Nat.lt_irrefl _)
  have hdx : (h.push emptyDict).get? h.objs.size = some emptyDict := Heap.get?_push_size _ rfl
  have hx : ((h.push emptyDict).push (instObj 125 h.objs.size)).get? (h.objs.size + 1) = some (instObj 125 h.objs.size) := by
    have := Heap.get?_push_size (h.push emptyDict) (o := instObj 125 h.objs.size) rfl
    rwa [Heap.size_push] at this
  refine make_core (makes_of G.K (by with_unfolding_all rfl)) (looks_findIn G.K (show findIn _ _ _ = some (some (.ref 80)) by with_unfolding_all rfl)) (fun self => bind_fn G.K self (by with_unfolding_all rfl)) (.inl rfl) ?_
  refine codeAny_mono (ws_init (g := h) (hA.making _) G (k1.tr k2) hn ⟨hx, _, k2 _ _ hdx, [], 0, rfl, Ents.nil⟩ (Nat.succ_ne_self _) hw ha) ?_
  rintro r s' ⟨v, h', t', rfl, rfl, rfl, kb, k1', k2', k3', p, q, qs, ho, hp, hq, hi, np, nq⟩
  have fr : ∀ b, h.objs.size ≤ b → h.get? b = none := fun b hb => by
    cases q : h.get? b with
    | none => rfl
    | some o => exact absurd (Heap.lt_size q) (Nat.not_lt.mpr hb)
  have fr' : ∀ b, ((h.push emptyDict).push (instObj 125 h.objs.size)).get? b = none → h.get? b = none := fun b hb => by
    cases q : h.get? b with
    | none => rfl
    | some o => exact absurd ((k1.tr k2) _ _ q) (by rw [hb]; exact fun z => nomatch z)
  refine ⟨rfl, _, h', t', rfl, rfl, fun b o e => kb b o (fun z => by rw [z, hn] at e; cases e) (k2 _ _ (k1 _ _ e)), _, rfl, fun B' hB => ?_⟩
  obtain ⟨od, ed, rd⟩ := ho
  exact ⟨h.objs.size, _, k1', k2', k3', p, q, qs, ⟨hB _ _ (fr _ (Nat.le_succ _)) (kb _ _ (Nat.succ_ne_self _) hx), od, hB _ _ hn ed, rd⟩, hB _ _ (fr' _ np) hp, hB _ _ (fr' _ nq) hq, hi⟩

theorem tlen {sH : Heap} {sG : Array GenState} {sD : Drawn} {sT : Nat} {sO : OsState} {a : Addr} {xs : List Value} {Q : Value → Shared → Prop} (ht : sH.get? a = some (to xs)) (hb : xs.length ≤ 16777216) (h : ∀ t u, Q (.int xs.length t) ⟨sH, sG, sD, u, sO⟩) : wpAny (model prog w) A (call (.builtin "len") [.ref a]) Q E ⟨sH, sG, sD, sT, sO⟩ :=
  len_tuple ⟨_, ht, rfl, 0, rfl⟩ (by rw [List.size_toArray]; omega) (by rw [List.size_toArray]; exact h _ _)
theorem titem {value slice : PySem.Expr} {a : Addr} {xs : List Value} {k : Nat} {u : Tok} {x : Value} {Q : Value → Shared → Prop} (ht : s.heap.get? a = some (to xs)) (hk : k < 16777216) (hx : xs[k]? = some x) (h : Q x s)
    (hs : subscripted slice false (.ref a) (.int k u) = operate [.ref a, .int k u] (getItem (.ref a) (.int k u)) := by with_unfolding_all rfl) : wpAny (model prog w) A (subscriptTail value slice (.ref a) (.int k u)) Q E s := by
  have hl := (List.getElem?_eq_some_iff.mp hx).1
  refine item_tupleT (j := k) ⟨_, ht, rfl, 0, rfl⟩ (by first | with_reducible assumption | with_reducible exact lt5 (by assumption) | omega) (by first | with_reducible assumption | with_reducible exact lt5 (by assumption) | omega) ?_ hx h hs
  have e : (if (k : Int) < 0 then (k : Int) + xs.length else (k : Int)) = k := if_neg (by first | with_reducible assumption | with_reducible exact lt5 (by assumption) | omega)
  unfold seqIndex?
  simp only [e]
  rw [if_pos (by simp only [Bool.and_eq_true, decide_eq_true_eq]; omega)]; simp
theorem max2 {sH : Heap} {sG : Array GenState} {sD : Drawn} {sT : Nat} {sO : OsState} {a b : Int} {t u : Tok} {Q : Value → Shared → Prop} (hh : A.handled = none) (h : ∀ h' k t, Kp sH h' → Q (.int (max a b) k) ⟨h', sG, sD, t, sO⟩) : wpAny (model prog w) A (call (.builtin "max") [.int a t, .int b u]) Q E ⟨sH, sG, sD, sT, sO⟩ :=
  max_two_ints hh fun h' tk k => by
    by_cases q : b > a
    · rw [if_pos q]
      have := h h' u tk k
      rwa [Int.max_eq_right (by first | with_reducible assumption | with_reducible exact lt5 (by assumption) | omega)] at this
    · rw [if_neg q]
      have := h h' t tk k
      rwa [Int.max_eq_left (by first | with_reducible assumption | with_reducible exact lt5 (by assumption) | omega)] at this
theorem unp2 {sH : Heap} {sG : Array GenState} {sD : Drawn} {sT : Nat} {sO : OsState} {env : Env} {x y : Str} {p1 p2 tp : Pos} {k : Nat} {a : Addr} {u v : Value} {Q : Unit → Shared → Prop} (hh : A.handled = none) (ht : sH.get? a = some (to [u, v]))
    (h : ∀ h', Kp sH h' → wpAny (model prog w) A (storeName env x u) (fun _ s₁ => wpAny (model prog w) A (storeName env y v) Q E s₁) E ⟨h', sG, sD, sT, sO⟩) :
    wpAny (model prog w) A (assign (.Tuple [.Name x p1, .Name y p2] k tp) env (.ref a)) Q E ⟨sH, sG, sD, sT, sO⟩ := by
  refine assign_Tuple_tuple hh ⟨_, ht, rfl, 0, rfl⟩ rfl rfl fun h' kk => ?_
  have h1 := h h' (fun b o e => kk b o (Nat.ne_of_lt (Heap.lt_size e)) e)
  exact wpAny_bind (wpAny_holding (assign_Name (wpAny_mono h1 (fun _ s₁ h₁ => wpAny_bind (wpAny_holding (assign_Name (wpAny_mono h₁ (fun _ _ h₂ => wpAny_pure h₂) fun _ _ e => e)))) fun _ _ e => e)))

noncomputable def longest (d : Ws) : Int := max ((d.cs.length : Int) - 1) d.b
theorem ws_longest {x : Addr} {d : Ws} (hA : Ar A 1) (G : Gk w s.heap) (W : WsAt s.heap x d) (hs : Small d = true) :
    codeAny (model prog w) A (.call (.ref 87) ⟨[.ref x], []⟩) (Ends s fun v h => Kp s.heap h ∧ ∃ k, v = .int (longest d) k) s := by
  obtain ⟨dx, raw, k1, k2, k3, p, q, qs, I, hp, hq, hi⟩ := W
  simp only [Small, Bool.and_eq_true, decide_eq_true_eq] at hs
  refine enter ["self"] ["count", "trailing"] ["max", "len"] ["self", "count", "trailing"] [some (.ref x), none, none] (g := s.heap) (nw := []) hA.room (fn87 G) G.nolimit Kp.rf
    (by simp) (by simp) (by with_unfolding_all rfl) (by with_unfolding_all rfl) rfl (by decide +kernel) (by decide +kernel) (by decide +kernel) rfl rfl (fun env AA h₀ t₀ hAA C F => ?_)
  refine opq fun QQ EE hQQ _ => ?_
  have hA' := hAA (fun a => Ar a _) (hA.deeper env)
  have hl := ints_len hi
  refine wpAny_execs_cons <| Assign_Tuple <| Attribute_Name_ <| ld F C (by with_reducible repeat (first | exact At.hd | apply At.tl)) <| o_get (G.kp F.keep) (I.kp F.keep) rfl (by with_unfolding_all rfl) rfl fun u => unp2 hA'.1 (F.keep _ _ hp) fun h1 k1 => ?_
  have F1 := F.call k1
  refine st F1 C fun h2 t2 F2 => ?_
  refine st F2 C fun h3 t3 F3 => ?_
  try dsimp only
  refine wpAny_execs_cons <| wpAny_Return_some <| cblt F3.keep C (g_max G) <| args_cons <| wpAny_BinOp <| cblt F3.keep C (g_len G) <| args_cons <| ld F3 C (by with_reducible repeat (first | exact At.hd | apply At.tl)) <| args_nil <| tlen (F3.keep _ _ hq) (by first | with_reducible assumption | with_reducible exact lt5 (by assumption) | omega) fun _ _ => k_int fun _ _ => i_sub fun _ _ => args_cons ?_
  refine ld F3 C (by with_reducible repeat (first | exact At.hd | apply At.tl)) <| args_nil <| max2 hA'.1 fun h4 k t k4 => ?_
  have F4 := F3.call k4
  refine hQQ _ _ ⟨_, _, _, rfl, rfl, F4.keep, k, ?_⟩
  rw [hl]; rfl

theorem rangeSize_any (a b : Int) : Builtin.Range.rangeSize a b 1 = ((b - a).toNat : Nat) := by
  unfold Builtin.Range.rangeSize
  rw [if_pos (by decide)]
  split <;> omega
theorem iter_rng {sH : Heap} {sG : Array GenState} {sD : Drawn} {sT : Nat} {sO : OsState} {L : Addr} {ns : List Str} {vs : List (Option Value)} {nw : Nw} {a b : Int} {r : Addr} {Q : Value → Shared → Prop} (F : Sx g L sH ns vs nw) (m : (r, isRange a b) ∈ nw) (h1 : -1000000 < a) (h2 : a < 1000000) (h3 : -1000000 < b) (h4 : b < 1000000)
    (h : ∀ it h', Sx g L h' ns vs ((it, isRg a 1 (b - a).toNat 0) :: nw) → Q (.ref it) ⟨h', sG, sD, sT, sO⟩) : wpAny (model prog w) A (pyIter (.ref r)) Q E ⟨sH, sG, sD, sT, sO⟩ := by
  obtain ⟨⟨o, e, t, u, v, rfl⟩, _⟩ := F.news _ m
  have fit : ∀ x : Int, -4000000 < x → x < 4000000 → Builtin.Range.rangeFitsLong x = true := by
    intro x a b
    unfold Builtin.Range.rangeFitsLong
    simp only [Bool.and_eq_true, decide_eq_true_eq]
    omega
  have sm : Builtin.Range.small a b 1 = true := by
    unfold Builtin.Range.small
    rw [rangeSize_any, fit a (by first | with_reducible assumption | with_reducible exact lt5 (by assumption) | omega) (by first | with_reducible assumption | with_reducible exact lt5 (by assumption) | omega), fit b (by first | with_reducible assumption | with_reducible exact lt5 (by assumption) | omega) (by first | with_reducible assumption | with_reducible exact lt5 (by assumption) | omega), fit 1 (by first | with_reducible assumption | with_reducible exact lt5 (by assumption) | omega) (by first | with_reducible assumption | with_reducible exact lt5 (by assumption) | omega), fit ((b - a).toNat : Nat) (by first | with_reducible assumption | with_reducible exact lt5 (by assumption) | omega) (by first | with_reducible assumption | with_reducible exact lt5 (by assumption) | omega)]
    simp only [Bool.and_true, Bool.true_and, Bool.or_eq_true]
    right
    rw [if_pos (by decide)]
    exact fit _ (by first | with_reducible assumption | with_reducible exact lt5 (by assumption) | omega) (by first | with_reducible assumption | with_reducible exact lt5 (by assumption) | omega)
  refine wpAny_pyIter_range (show IsRange sH r a b 1 t u v from e) sm (h _ _ (F.push _ ?_ rfl))
  rw [rangeSize_any]
  unfold isRg rgObj
  simp

noncomputable def ilF (cs : List Int) (ts : Nat) : Nat → Int
  | 0 => 0
  | j + 1 => ilF cs ts j + (((ts + j) / ts : Nat) : Int) * cs.getD (ts + j) 0
noncomputable def indent (d : Ws) (ts : Nat) : Int := d.b + ts * (ilF d.cs ts (d.cs.length - ts) + d.nt)
theorem ws_indent {x : Addr} {d : Ws} {ts : Nat} {t : Tok} (hA : Ar A 1) (G : Gk w s.heap) (W : WsAt s.heap x d) (hs : Small d = true) (h1 : 1 ≤ ts) (h2 : ts ≤ 1000) :
    codeAny (model prog w) A (.call (.ref 94) ⟨[.ref x, .int ts t], []⟩) (Ends s fun v h => Kp s.heap h ∧ ∃ k, v = .int (indent d ts) k) s := by
  obtain ⟨dx, raw, k1, k2, k3, p, q, qs, I, hp, hq, hi⟩ := W
  simp only [Small, Bool.and_eq_true, decide_eq_true_eq] at hs
  refine enter ["self", "tabsize"] ["count", "trailing", "il", "i"] ["range", "len"] ["self", "tabsize", "count", "trailing", "il", "i"] [some (.ref x), some (.int ts t), none, none, none, none] (g := s.heap) (nw := []) hA.room (fn94 G) G.nolimit Kp.rf
    (by simp) (by simp) (by with_unfolding_all rfl) (by with_unfolding_all rfl) rfl (by decide +kernel) (by decide +kernel) (by decide +kernel) rfl rfl (fun env AA h₀ t₀ hAA C F => ?_)
  refine opq fun QQ EE hQQ _ => ?_
  have hA' := hAA (fun a => Ar a _) (hA.deeper env)
  have hl := ints_len hi
  refine wpAny_execs_cons <| Assign_Tuple <| Attribute_Name_ <| ld F C (by with_reducible repeat (first | exact At.hd | apply At.tl)) <| o_get (G.kp F.keep) (I.kp F.keep) rfl (by with_unfolding_all rfl) rfl fun u => unp2 hA'.1 (F.keep _ _ hp) fun h1 k1 => ?_
  have F1 := F.call k1
  refine st F1 C fun h2 t2 F2 => ?_
  refine st F2 C fun h3 t3 F3 => ?_
  try dsimp only
  refine wpAny_execs_cons <| wpAny_Assign_Name <| k_int fun k0 _ => st F3 C fun h4 t4 F4 => ?_
  try dsimp only
  refine wpAny_execs_cons <| wpAny_For <| ctyp F4.keep C (g_range G) <| args_cons <| ld F4 C (by with_reducible repeat (first | exact At.hd | apply At.tl)) <| args_cons <| cblt F4.keep C (g_len G) <| args_cons <| ld F4 C (by with_reducible repeat (first | exact At.hd | apply At.tl)) <| args_nil <| tlen (F4.keep _ _ hq) (by first | with_reducible assumption | with_reducible exact lt5 (by assumption) | omega) fun _ _ => args_nil ?_
  refine crange2 F4 fun r h5 t5 F5 => ?_
  refine iter_rng F5 (by walk_at "mem") (by first | with_reducible assumption | with_reducible exact lt5 (by assumption) | omega) (by first | with_reducible assumption | with_reducible exact lt5 (by assumption) | omega) (by first | with_reducible assumption | with_reducible exact lt5 (by assumption) | omega) (by first | with_reducible assumption | with_reducible exact lt5 (by assumption) | omega) fun it h6 F6 => ?_
  try dsimp only
  have en : ((qs.length : Int) - (ts : Int)).toNat = d.cs.length - ts := by omega
  rw [en] at F6
  refine for_in (gen_range prog w ts 1 (d.cs.length - ts)) (σ := Int × Tok × Option Value) (fun p => [some (.ref x), some (.int ts t), some (.ref q), some (.int d.b k3), some (.int p.1 p.2.1), p.2.2])
    (fun p v => [some (.ref x), some (.int ts t), some (.ref q), some (.int d.b k3), some (.int p.1 p.2.1), some v])
    (fun p => [(r, isRange ts qs.length)]) (fun i p => p.1 = ilF d.cs ts i) (0, k0, none) hA'.1 C (fun _ _ => trivial) F6 rfl (fun p v => by walk_at "put") ?_ ?_
  · rintro i ⟨il, kil, oi⟩ v h7 t7 hi7 hil ⟨ki, rfl⟩ F7
    refine opq fun Q1 E1 hQ1 _ => ?_
    try dsimp only at F7 hil
    rw [show (ts : Int) + (i : Int) * 1 = ((ts + i : Nat) : Int) by omega] at F7
    have hg : d.cs[ts + i]? = some (d.cs.getD (ts + i) 0) := by
      rw [List.getD_eq_getElem?_getD, List.getElem?_eq_getElem (by first | with_reducible assumption | with_reducible exact lt5 (by assumption) | omega)]; rfl
    obtain ⟨kv, hv⟩ := ints_get hi hg
    have ed : ((ts + i : Nat) : Int).fdiv ts = (((ts + i) / ts : Nat) : Int) := by rw [Int.fdiv_eq_ediv_of_nonneg _ (by first | with_reducible assumption | with_reducible exact lt5 (by assumption) | omega)]; rfl
    have hle : (ts + i) / ts ≤ ts + i := Nat.div_le_self _ _
    have hbits : Builtin.Int.intBits (((ts + i) / ts : Nat) : Int) ≤ 64 := by
      clear ed
      generalize (ts + i) / ts = qq at hle
      exact intBits_le_64 (by first | with_reducible assumption | with_reducible exact lt5 (by assumption) | omega) (by first | with_reducible assumption | with_reducible exact lt5 (by assumption) | omega)
    refine wpAny_execs_cons <| wpAny_Assign_Name <| wpAny_BinOp <| ld F7 C (by with_reducible repeat (first | exact At.hd | apply At.tl)) <| wpAny_BinOp <| wpAny_BinOp <| ld F7 C (by with_reducible repeat (first | exact At.hd | apply At.tl)) <| ld F7 C (by with_reducible repeat (first | exact At.hd | apply At.tl)) <| i_div (by first | with_reducible assumption | with_reducible exact lt5 (by assumption) | omega) (by first | with_reducible assumption | with_reducible exact lt5 (by assumption) | omega) fun _ _ => Subscript_ <| ld F7 C (by with_reducible repeat (first | exact At.hd | apply At.tl)) <| ld F7 C (by with_reducible repeat (first | exact At.hd | apply At.tl)) <| titem (F7.keep _ _ hq) (by first | with_reducible assumption | with_reducible exact lt5 (by assumption) | omega) hv <| ?_
    rw [ed]
    refine i_mul (fun _ _ => i_add fun _ _ => st F7 C fun h8 t8 F8 => ?_) (IntMulOk.of_left hbits)
    try dsimp only
    refine wpAny_execs_nil (hQ1 _ _ ⟨_, _, (_, _, _), rfl, ?_, F8⟩)
    try dsimp only
    rw [hil]; rfl
  · rintro ⟨il, kil, oi⟩ h7 t7 hil F7
    try dsimp only at F7 hil ⊢
    refine wpAny_execs_cons <| wpAny_Return_some <| wpAny_BinOp <| ld F7 C (by with_reducible repeat (first | exact At.hd | apply At.tl)) <| wpAny_BinOp <| ld F7 C (by with_reducible repeat (first | exact At.hd | apply At.tl)) <| wpAny_BinOp <| ld F7 C (by with_reducible repeat (first | exact At.hd | apply At.tl)) <| Attribute_Name_ <| ld F7 C (by with_reducible repeat (first | exact At.hd | apply At.tl)) <| o_get (G.kp F7.keep) (I.kp F7.keep) rfl (by with_unfolding_all rfl) rfl fun u => i_add fun _ _ => i_mul (fun _ _ => i_add fun k _ => ?_) (IntMulOk.of_left (intBits_le_64 (by first | with_reducible assumption | with_reducible exact lt5 (by assumption) | omega) (by first | with_reducible assumption | with_reducible exact lt5 (by assumption) | omega)))
    refine hQQ _ _ ⟨_, _, _, rfl, rfl, F7.keep, k, ?_⟩
    rw [hil]; rfl

theorem cmeth {env : Env} {o : PySem.Expr} {name : Str} {apos pos : Pos} {args : List PySem.Expr} {f : Addr} {pl : Sem Bool} {Q : Value → Shared → Prop} (hf : findIn (KK w.params) (.ref 125) name = some (some (.ref f))) (ht : typeIn (KK w.params) (.ref f) = some (.type "function"))
    (h : wpAny (model prog w) A (eval o env) (fun ov s₁ => ∃ x dx l, ov = .ref x ∧ Gk w s₁.heap ∧ Inst s₁.heap x dx l ∧ l.lookup name = none ∧ wpAny (model prog w) A (spliced (backTo pos (starEach args env))) (fun vs s₂ => IsFn s₂.heap f ∧
      codeAny (model prog w) A (.call (.ref f) ⟨.ref x :: vs, []⟩) (fun r s' => match r with | .ok (.ret v) => Q v s' | .ok _ => False | .error e => E e s') s₂) E s₁) E s)
    (he : eval (.Call (.Attribute o name apos) args [] pos) env = (do
      let ov ← eval o env
      standAt apos.atName
      let (f, first) ← holding [ov] (getMethod ov name pl)
      callWith pos f first (backTo pos (starEach args env)) (backToKw pos (keywordEach [] env))) := by rfl)
    (hev : ∀ (fv : Value) (Q : Args → Shared → Prop) (s : Shared), wpAny (model prog w) A (spliced (backTo pos (starEach args env))) (fun vs s' => Q ⟨vs, []⟩ s') E s → wpAny (model prog w) A (evalArgs fv true (backTo pos (starEach args env)) []) Q E s) :
    wpAny (model prog w) A (eval (.Call (.Attribute o name apos) args [] pos) env) Q E s := by
  refine methodCall_KW (wpAny_mono h (fun ov s₁ h₁ => ?_) fun _ _ e => e) he
  obtain ⟨x, dx, l, rfl, G, I, hl, h₂⟩ := h₁
  obtain ⟨es, n, en, I'⟩ := I.at
  refine method_fn G.K I' (ws_ga _) (ws_g _) hf ht ?_ ?_
  · show (lookIn name (dictOf es n)).map _ = _
    rw [lookIn_dict, en.getL, hl]; rfl
  · refine callWith_function (o := { cls := .type "function", data := .func (fdAt f) }) (fd := fdAt f) (hev _ _ _ (wpAny_mono h₂ (fun vs s₂ h₃ => ⟨⟨h₃.1.1, rfl⟩, ?_⟩) fun _ _ e => e))
    exact wpAny_call h₃.2
theorem ev0 {env : Env} {pos : Pos} (fv : Value) (Q : Args → Shared → Prop) (s : Shared) (h : wpAny (model prog w) A (spliced (backTo pos (starEach [] env))) (fun vs s' => Q ⟨vs, []⟩ s') E s) : wpAny (model prog w) A (evalArgs fv true (backTo pos (starEach [] env)) []) Q E s := by
  show wpAny (model prog w) A (evalArgs fv true [] []) Q E s
  unfold evalArgs
  show wpAny (model prog w) A (spliced [] >>= _) Q E s
  refine wpAny_bind (wpAny_mono (show wpAny (model prog w) A (spliced []) _ E s from h) (fun vs s' h' => ?_) fun _ _ x => x)
  refine wpAny_bind (wpAny_pure (wpAny_holding ?_))
  exact wpAny_bind (wpAny_pure (wpAny_bind (wpAny_pure (wpAny_pure h'))))
theorem ev1 {env : Env} {pos : Pos} {e : PySem.Expr} {rest : List PySem.Expr} (he : starEach (e :: rest) env = (false, eval e env) :: starEach rest env) (fv : Value) (Q : Args → Shared → Prop) (s : Shared)
    (h : wpAny (model prog w) A (spliced (backTo pos (starEach (e :: rest) env))) (fun vs s' => Q ⟨vs, []⟩ s') E s) : wpAny (model prog w) A (evalArgs fv true (backTo pos (starEach (e :: rest) env)) []) Q E s := by
  rw [he] at h ⊢
  exact evalArgs_plain h

theorem mid2 {M : Model} {env : Env} {st : Stmt} {rest : List Stmt} {Q : Flow → Shared → Prop} (Mid : Shared → Prop)
    (h1 : wpAny M A (exec st env) (fun f s' => (f = .next ∧ Mid s') ∨ ∃ v, f = .ret v ∧ Q (.ret v) s') E s) (h2 : ∀ s', Mid s' → wpAny M A (execs rest env) Q E s') : wpAny M A (execs (st :: rest) env) Q E s :=
  wpAny_execs_cons (wpAny_mono h1 (fun f s' h => by
    rcases h with ⟨rfl, m⟩ | ⟨v, rfl, q⟩
    · exact h2 s' m
    · exact q) fun _ _ e => e)
noncomputable def lessL (d e : Ws) : Nat → Nat → Bool
  | 0, _ => true
  | n + 1, ts => if indent e ts ≤ indent d ts then false else lessL d e n (ts + 1)
noncomputable def lessP (d e : Ws) : Bool :=
  if e.n ≤ d.n then false
  else if (decide ((d.cs.length : Int) ≤ 1) && decide ((e.cs.length : Int) ≤ 1)) = true then decide (d.nt ≤ e.nt)
  else lessL d e ((max (longest d) (longest e)).toNat) 2
theorem ws_less {x y : Addr} {d e : Ws} (hA : Ar A 2) (G : Gk w s.heap) (W : WsAt s.heap x d) (V : WsAt s.heap y e) (hd : Small d = true) (he : Small e = true) :
    codeAny (model prog w) A (.call (.ref 115) ⟨[.ref x, .ref y], []⟩) (Ends s fun v h => Kp s.heap h ∧ v = .bool (lessP d e)) s := by
  have W' := W
  have V' := V
  obtain ⟨dx, raw, k1, k2, k3, p, q, qs, I, hp, hq, hi⟩ := W
  obtain ⟨dy, raw', k1', k2', k3', p', q', qs', I', hp', hq', hi'⟩ := V
  have hd' := hd
  have he' := he
  simp only [Small, Bool.and_eq_true, decide_eq_true_eq] at hd' he'
  refine enter ["self", "other"] ["n", "ts"] ["max", "range"] ["self", "other", "n", "ts"] [some (.ref x), some (.ref y), none, none] (g := s.heap) (nw := []) hA.room (fn115 G) G.nolimit Kp.rf
    (by simp) (by simp) (by with_unfolding_all rfl) (by with_unfolding_all rfl) rfl (by decide +kernel) (by decide +kernel) (by decide +kernel) rfl rfl (fun env AA h₀ t₀ hAA C F => ?_)
  refine opq fun QQ EE hQQ _ => ?_
  have hA' := hAA (fun a => Ar a _) (hA.deeper env)
  refine wpAny_execs_cons <| wpAny_If <| wpAny_isTrue_Compare1 <| Attribute_Name_ <| ld F C (by with_reducible repeat (first | exact At.hd | apply At.tl)) <| o_get (G.kp F.keep) (I.kp F.keep) rfl (by with_unfolding_all rfl) rfl fun _ => Attribute_Name_ <| ld F C (by with_reducible repeat (first | exact At.hd | apply At.tl)) <| o_get (G.kp F.keep) (I'.kp F.keep) rfl (by with_unfolding_all rfl) rfl fun _ => i_ge ?_
  by_cases hn : e.n ≤ d.n
  · rw [if_pos (by simpa using hn)]
    refine wpAny_execs_cons <| wpAny_Return_some <| k_bool ?_
    exact hQQ _ _ ⟨_, _, _, rfl, rfl, F.keep, by rw [lessP, if_pos hn]⟩
  rw [if_neg (by simpa using hn)]
  refine wpAny_execs_nil ?_
  try dsimp only
  refine mid2 (fun s' => (decide ((d.cs.length : Int) ≤ 1) && decide ((e.cs.length : Int) ≤ 1)) = false ∧ ∃ h t, s' = { s with heap := h, toks := t } ∧ Sx s.heap env.locals h ["self", "other", "n", "ts"] [some (.ref x), some (.ref y), none, none] []) ?_ ?_
  · refine opq fun Q2 E2 hQ2 _ => ?_
    refine wpAny_If <| t_bool <| all_cons <| isTrue_plain <| Attribute_Name_ <| ld F C (by with_reducible repeat (first | exact At.hd | apply At.tl)) <| o_get (G.kp F.keep) (I.kp F.keep) rfl (by with_unfolding_all rfl) rfl fun _ => wpAny_truthy_bool ?_
    cases hs1 : decide ((d.cs.length : Int) ≤ 1) with
    | false =>
      rw [if_neg (by decide), if_neg (by decide)]
      exact wpAny_execs_nil (hQ2 _ _ (.inl ⟨rfl, by rw [hs1]; rfl, _, _, rfl, F⟩))
    | true =>
      rw [if_pos rfl]
      refine all_cons <| isTrue_plain <| Attribute_Name_ <| ld F C (by with_reducible repeat (first | exact At.hd | apply At.tl)) <| o_get (G.kp F.keep) (I'.kp F.keep) rfl (by with_unfolding_all rfl) rfl fun _ => wpAny_truthy_bool ?_
      cases hs2 : decide ((e.cs.length : Int) ≤ 1) with
      | false =>
        rw [if_neg (by decide), if_neg (by decide)]
        exact wpAny_execs_nil (hQ2 _ _ (.inl ⟨rfl, by rw [hs2, Bool.and_false], _, _, rfl, F⟩))
      | true =>
        rw [if_pos rfl]
        refine all_nil ?_
        rw [if_pos rfl]
        refine wpAny_execs_cons <| wpAny_Return_some <| wpAny_Compare1 <| Attribute_Name_ <| ld F C (by with_reducible repeat (first | exact At.hd | apply At.tl)) <| o_get (G.kp F.keep) (I.kp F.keep) rfl (by with_unfolding_all rfl) rfl fun _ => Attribute_Name_ <| ld F C (by with_reducible repeat (first | exact At.hd | apply At.tl)) <| o_get (G.kp F.keep) (I'.kp F.keep) rfl (by with_unfolding_all rfl) rfl fun _ => PyProof.Rows.le_int ?_
        refine hQ2 _ _ (.inr ⟨_, rfl, hQQ _ _ ⟨_, _, _, rfl, rfl, F.keep, ?_⟩⟩)
        rw [lessP, if_neg hn, hs1, hs2, if_pos (by rfl)]
        show Value.bool _ = Value.bool _
        congr 1
        rw [decide_eq_decide]; omega
  · rintro s' ⟨hns, h1, t1, rfl, F1⟩
    refine wpAny_execs_cons <| wpAny_Assign_Name <| wpAny_BinOp <| cblt F1.keep C (g_max G) <| args_cons <| cmeth (f := 87) (by with_unfolding_all rfl) (by with_unfolding_all rfl) (hev := fun fv Q s h => ev0 fv Q s h) <|
      ld F1 C (by with_reducible repeat (first | exact At.hd | apply At.tl)) ⟨x, dx, _, rfl, G.kp F1.keep, I.kp F1.keep, rfl, args_nil ⟨fn87 (G.kp F1.keep), use (ws_longest (hA'.le (by decide)) (G.kp F1.keep) (W'.kp F1.keep) hd) fun v h2 t2 hv => ?_⟩⟩
    obtain ⟨kp2, k, rfl⟩ := hv
    have F2 := F1.call kp2
    refine args_cons <| cmeth (f := 87) (by with_unfolding_all rfl) (by with_unfolding_all rfl) (hev := fun fv Q s h => ev0 fv Q s h) <|
      ld F2 C (by with_reducible repeat (first | exact At.hd | apply At.tl)) ⟨y, dy, _, rfl, G.kp F2.keep, I'.kp F2.keep, rfl, args_nil ⟨fn87 (G.kp F2.keep), use (ws_longest (hA'.le (by decide)) (G.kp F2.keep) (V'.kp F2.keep) he) fun v h3 t3 hv => ?_⟩⟩
    obtain ⟨kp3, k, rfl⟩ := hv
    have F3 := F2.call kp3
    refine args_nil <| max2 hA'.1 fun h4 k4 t4 kp4 => ?_
    have F4 := F3.call kp4
    refine k_int fun _ _ => i_add fun kn _ => st F4 C fun h5 t5 F5 => ?_
    try dsimp only
    have hb1 : 0 ≤ max (longest d) (longest e) := by
      have : 0 ≤ longest d := by unfold longest; omega
      omega
    have hb2 : max (longest d) (longest e) ≤ 200 := by
      have h1 : longest d ≤ 200 := by unfold longest; omega
      have h2 : longest e ≤ 200 := by unfold longest; omega
      omega
    refine wpAny_execs_cons <| wpAny_For <| ctyp F5.keep C (g_range G) <| args_cons <| k_int fun _ _ => args_cons <| wpAny_BinOp <| ld F5 C (by with_reducible repeat (first | exact At.hd | apply At.tl)) <| k_int fun _ _ => i_add fun _ _ => args_nil ?_
    refine crange2 F5 fun r h6 t6 F6 => ?_
    refine iter_rng F6 (by walk_at "mem") (by first | with_reducible assumption | with_reducible exact lt5 (by assumption) | omega) (by first | with_reducible assumption | with_reducible exact lt5 (by assumption) | omega) (by first | with_reducible assumption | with_reducible exact lt5 (by assumption) | omega) (by first | with_reducible assumption | with_reducible exact lt5 (by assumption) | omega) fun it h7 F7 => ?_
    try dsimp only
    generalize hM : max (longest d) (longest e) = M at *
    have en : (M + 1 + 1 - 2).toNat = M.toNat := by omega
    rw [en] at F7
    refine for_in (gen_range prog w 2 1 M.toNat) (σ := Option Value) (fun p => [some (.ref x), some (.ref y), some (.int (M + 1) kn), p]) (fun p v => [some (.ref x), some (.ref y), some (.int (M + 1) kn), some v])
      (fun p => [(r, isRange 2 (M + 1 + 1))]) (fun i p => lessL d e (M.toNat - i) (2 + i) = lessP d e) none hA'.1 C (fun _ _ => trivial) F7 (by rw [lessP, if_neg hn, if_neg (by rw [hns]; decide), hM]; rfl) (fun p v => by walk_at "put") ?_ ?_
    · rintro i oi v h8 t8 hi8 hl ⟨ki, rfl⟩ F8
      refine opq fun Q1 E1 hQ1 _ => ?_
      try dsimp only at F8
      rw [show (2 : Int) + (i : Int) * 1 = ((2 + i : Nat) : Int) by omega] at F8
      rw [show M.toNat - i = (M.toNat - (i + 1)) + 1 by omega, lessL] at hl
      refine mid2 (fun s' => indent d (2 + i) < indent e (2 + i) ∧ ∃ h t, s' = { s with heap := h, toks := t } ∧ Sx s.heap env.locals h ["self", "other", "n", "ts"] [some (.ref x), some (.ref y), some (.int (M + 1) kn), some (.int ((2 + i : Nat) : Int) ki)] [(it, isRg 2 1 M.toNat (i + 1)), (r, isRange 2 (M + 1 + 1))]) ?_ ?_
      · refine opq fun Q2 E2 hQ2 _ => ?_
        refine wpAny_If <| wpAny_isTrue_Compare1 <| cmeth (f := 94) (by with_unfolding_all rfl) (by with_unfolding_all rfl) (hev := fun fv Q s h => ev1 rfl fv Q s h) <|
          ld F8 C (by with_reducible repeat (first | exact At.hd | apply At.tl)) ⟨x, dx, _, rfl, G.kp F8.keep, I.kp F8.keep, rfl, args_cons <| ld F8 C (by with_reducible repeat (first | exact At.hd | apply At.tl)) <| args_nil ⟨fn94 (G.kp F8.keep), use (ws_indent (hA'.le (by decide)) (G.kp F8.keep) (W'.kp F8.keep) hd (by first | with_reducible assumption | with_reducible exact lt5 (by assumption) | omega) (by first | with_reducible assumption | with_reducible exact lt5 (by assumption) | omega)) fun v h9 t9 hv => ?_⟩⟩
        obtain ⟨kp9, k, rfl⟩ := hv
        have F9 := F8.call kp9
        refine cmeth (f := 94) (by with_unfolding_all rfl) (by with_unfolding_all rfl) (hev := fun fv Q s h => ev1 rfl fv Q s h) <|
          ld F9 C (by with_reducible repeat (first | exact At.hd | apply At.tl)) ⟨y, dy, _, rfl, G.kp F9.keep, I'.kp F9.keep, rfl, args_cons <| ld F9 C (by with_reducible repeat (first | exact At.hd | apply At.tl)) <| args_nil ⟨fn94 (G.kp F9.keep), use (ws_indent (hA'.le (by decide)) (G.kp F9.keep) (V'.kp F9.keep) he (by first | with_reducible assumption | with_reducible exact lt5 (by assumption) | omega) (by first | with_reducible assumption | with_reducible exact lt5 (by assumption) | omega)) fun v h10 t10 hv => ?_⟩⟩
        obtain ⟨kp10, k, rfl⟩ := hv
        have F10 := F9.call kp10
        refine i_ge ?_
        by_cases hc : indent e (2 + i) ≤ indent d (2 + i)
        · rw [if_pos (by simpa using hc)]
          rw [if_pos hc] at hl
          refine wpAny_execs_cons <| wpAny_Return_some <| k_bool ?_
          exact hQ2 _ _ (.inr ⟨_, rfl, hQ1 _ _ (hQQ _ _ ⟨_, _, _, rfl, rfl, F10.keep, by rw [hl]⟩)⟩)
        · rw [if_neg (by simpa using hc)]
          exact wpAny_execs_nil (hQ2 _ _ (.inl ⟨rfl, by omega, _, _, rfl, F10⟩))
      · rintro s' ⟨hc, h9, t9, rfl, F9⟩
        rw [if_neg (by first | with_reducible assumption | with_reducible exact lt5 (by assumption) | omega)] at hl
        exact wpAny_execs_nil (hQ1 _ _ ⟨_, _, _, rfl, hl, F9⟩)
    · rintro oi h8 t8 hl F8
      try dsimp only at F8
      try dsimp only
      rw [Nat.sub_self, lessL] at hl
      refine wpAny_execs_cons <| wpAny_Return_some <| k_bool ?_
      exact hQQ _ _ ⟨_, _, _, rfl, rfl, F8.keep, by rw [hl]⟩
end

/-! texts: methods, parts, search -/
section
variable {prog : Program} {w : World} {A : Around} {E : Value → Shared → Prop} {s : Shared} {env : Env} {g : Heap} {L : Addr} {ns gs : List Str} {vs : List (Option Value)} {nw : Nw}
theorem smeth {o e : PySem.Expr} {rest : List PySem.Expr} {name : Str} {id : String} {apos pos : Pos} {Q : Value → Shared → Prop} (slot : Slot "str" name id) (hty : typeOf (.builtin id) = pure (.type "method_descriptor"))
    (h : wpAny (model prog w) A (eval o env) (fun ov s₁ => ∃ x t, ov = .str x t ∧ wpAny (model prog w) A (spliced (backTo pos (starEach (e :: rest) env))) (fun vs s₂ => wpAny (model prog w) A (call (.builtin id) (.str x t :: vs)) Q E s₂) E s₁) E s)
    (he : starEach (e :: rest) env = (false, eval e env) :: starEach rest env := by rfl) (hplain : (backTo pos (starEach rest env)).any (·.1) = false := by rfl)
    (hbase : attributeBase o name env (eval o env) = eval o env := by rfl)
    (hfew : ((backTo pos (starEach (e :: rest) env)).all (fun x => !x.1) && (backToKw pos (keywordEach [] env)).all (fun x => x.1.isSome)
      && decide ((e :: rest).length + ([] : List Keyword).length + (if ([] : List Keyword).isEmpty then 0 else 1) < 30)) = true := by rfl)
    (hline : (apos.endLine == pos.line) = true := by rfl) :
    wpAny (model prog w) A (eval (.Call (.Attribute o name apos) (e :: rest) [] pos) env) Q E s := by
  refine wpAny_Call_method_lateS hbase hfew hline (wpAny_mono h (fun ov s₁ hh => ?_) fun _ _ e => e)
  obtain ⟨x, t, e1, h₁⟩ := hh
  subst e1
  refine ⟨"str", id, F.plainAttrs_str, slot, hty, typeIs_str _ _ _, (fun _ e => nomatch e), ?_⟩
  rw [he] at h₁ ⊢
  exact callWith_builtin (by show (false || (backTo pos (starEach rest env)).any (·.1)) = false; rw [hplain]; rfl) (evalArgs_plain h₁)
theorem Kp.push {h : Heap} (o : Obj) : Kp h (h.push o) := fun b o' e => Heap.get?_push_of_some _ e
open Builtin Builtin.Str in
theorem s_split {x y : Str} {t u : Tok} {Q : Value → Shared → Prop} (Fx : Sx g L s.heap ns vs nw) (hy : (y.length == 0) = false)
    (h : ∀ l D h' k, l.map (·.1) = Txt.split x y → Sx g L h' ns vs ((D, isL (strValues l)) :: nw) → Q (.ref D) { s with heap := h', toks := k })
    (hsz : x.length ≤ 1000000) : wpAny (model prog w) A (call (.builtin "str.split") [.str x t, .str y u]) Q E s := by
  have hsz' : x.length + 2 ≤ sizeLine := by rw [sizeLine_eq]; omega
  have hn : (partsBetween x (occurrences x y 0 x.length (x.length + 1)) y.length).length ≤ sizeLine := by
    have e1 := StrLaws.occ_length_le x y 0 x.length (x.length + 1)
    rw [length_partsBetween]; omega
  cases h1 : (decide (x.length < y.length) || decide (strKind x < strKind y))
  · cases hf : (occurrences x y 0 x.length (x.length + 1)).isEmpty
    · refine call_meets F.slot_str_split (typeIs_str _ _ _) F.entry_str_split (F.args_str_split_2 _ _) (meets_str_split_sep x y t u h1 hy hf (by first | with_reducible assumption | with_reducible exact lt5 (by assumption) | omega) hn) ?_
      show wants Q E _ { s with toks := _, heap := s.heap.push { cls := .type "list", data := .seq (strsFrom s.toks (partsBetween x (occurrences x y 0 x.length (x.length + 1)) y.length)).toArray } }
      rw [strsFrom_eq]
      exact h (numbered s.toks _) _ _ _ ((numbered_texts _ _).trans ((if_neg (ne_true_of_eq_false h1)).trans (if_neg (ne_true_of_eq_false hf))).symm) (Fx.push _ ⟨0, rfl⟩ rfl)
    · exact call_meets F.slot_str_split (typeIs_str _ _ _) F.entry_str_split (F.args_str_split_2 _ _) (meets_str_split_not_found x y t u h1 hy hf)
        (h [(x, t)] _ _ s.toks ((if_neg (ne_true_of_eq_false h1)).trans (if_pos hf)).symm (Fx.push _ ⟨0, rfl⟩ rfl))
  · exact call_meets F.slot_str_split (typeIs_str _ _ _) F.entry_str_split (F.args_str_split_2 _ _) (meets_str_split_cannot_occur x y t u h1)
      (h [(x, t)] _ _ s.toks (if_pos h1).symm (Fx.push _ ⟨0, rfl⟩ rfl))
theorem Sx.base {h : Heap} (F : Sx g L h ns vs nw) : Sx (h.hide L) L h ns vs [] := ⟨F.loc, Kp.of_hide, (Heap.hide_self ..), fun _ hp => (nomatch hp), List.nodup_nil⟩
theorem Sx.kb {h : Heap} (F : Sx g L h ns vs nw) : Kp g (h.hide L) := F.keep.hide F.noL
theorem Sx.hlb {h : Heap} {a : Addr} {its : List Value} (F : Sx g L h ns vs nw) (m : (a, isL its) ∈ nw := by walk_at "mem") : Hl (h.hide L) a its :=
  let ⟨o, e, r⟩ := (F.news _ m).1; ⟨o, (Heap.hide_ne h (F.news _ m).2.1).trans e, r⟩
theorem s_len {sH : Heap} {sG : Array GenState} {sD : Drawn} {sT : Nat} {sO : OsState} {x : List Nat} {t : Tok} {Q : Value → Shared → Prop} (hb : x.length ≤ 16777216) (h : ∀ t u, Q (.int x.length t) ⟨sH, sG, sD, u, sO⟩) : wpAny (model prog w) A (call (.builtin "len") [.str (txt x) t]) Q E ⟨sH, sG, sD, sT, sO⟩ :=
  P.len_str (by rw [txt_len]; omega) (by rw [txt_len]; exact h _ _)
theorem s_tru {sH : Heap} {sG : Array GenState} {sD : Drawn} {sT : Nat} {sO : OsState} {x : List Nat} {t : Tok} {Q : Bool → Shared → Prop} (hb : x.length ≤ 16777216) (h : ∀ u, Q (decide (x ≠ [])) ⟨sH, sG, sD, u, sO⟩) : wpAny (model prog w) A (truthy (.str (txt x) t)) Q E ⟨sH, sG, sD, sT, sO⟩ := by
  refine P.truthy_str (by rw [txt_len]; omega) ?_
  have e : ((((txt x).length : Nat) : Int) != 0) = decide (x ≠ []) := by
    rw [txt_len]
    cases x with
    | nil => rfl
    | cons a r => simp; omega
  rw [e]; exact h _
theorem s_item {sH : Heap} {sG : Array GenState} {sD : Drawn} {sT : Nat} {sO : OsState} {value slice : PySem.Expr} {x : List Nat} {t u : Tok} {k c : Nat} {Q : Value → Shared → Prop} (hk : k < 16777216) (hx : x[k]? = some c) (h : ∀ t u, Q (.str (txt [c]) t) ⟨sH, sG, sD, u, sO⟩)
    (hs : subscripted slice false (.str (txt x) t) (.int k u) = operate [.str (txt x) t, .int k u] (getItem (.str (txt x) t) (.int k u)) := by with_unfolding_all rfl) :
    wpAny (model prog w) A (subscriptTail value slice (.str (txt x) t) (.int k u)) Q E ⟨sH, sG, sD, sT, sO⟩ := by
  have hl := (List.getElem?_eq_some_iff.mp hx).1
  refine tail_any (typeIs_str _ _ _) F.slot_str_getitem.lookup (P.getItem_str (c := c) (by simp; omega) ?_ (h _ _)) hs
  rw [txt_len]
  have e : (if (k : Int) < 0 then (k : Int) + x.length else (k : Int)) = k := if_neg (by first | with_reducible assumption | with_reducible exact lt5 (by assumption) | omega)
  unfold seqIndex?
  simp only [e]
  rw [if_pos (by simp only [Bool.and_eq_true, decide_eq_true_eq]; omega)]
  simpa [txt] using hx
open Builtin Builtin.Str in
theorem gives_find4 (x y : Str) (i j : Int) (t u v k : Tok) : Gives («str.find» ⟨[.str x t, .str y u, .int i v, .int j k], []⟩) (.int (match occurrences x y (fromIndex x.length i) (min (fromIndex x.length j) x.length) 1 with | k :: _ => (k : Int) | [] => -1)) := by
  show Gives (match occurrences x y (fromIndex x.length i) (min (fromIndex x.length j) x.length) 1 with | k :: _ => retInt k | [] => (do rule "str.find.not-found"; retInt (-1))) _
  cases occurrences x y (fromIndex x.length i) (min (fromIndex x.length j) x.length) 1 with
  | nil => exact .rule (.of_eq rfl)
  | cons k _ => exact .of_eq rfl
end
noncomputable def after : List Nat → Nat → Option (List Nat)
  | [], _ => none
  | a :: r, c => if a = c then some r else after r c
theorem after_none {l : List Nat} {c : Nat} (h : ∀ i : Nat, l[i]? ≠ some c) : after l c = none := by
  induction l with
  | nil => rfl
  | cons a r ih =>
    rw [after, if_neg (fun e => h 0 (by simp [e]))]
    exact ih fun i => by simpa using h (i + 1)
theorem after_some {l : List Nat} {c p : Nat} (hp : l[p]? = some c) (h : ∀ i : Nat, i < p → l[i]? ≠ some c) : after l c = some (l.drop (p + 1)) := by
  induction l generalizing p with
  | nil => simp at hp
  | cons a r ih =>
    cases p with
    | zero =>
      have e : a = c := by simpa using hp
      rw [after, if_pos e]; rfl
    | succ p =>
      rw [after, if_neg (fun e => h 0 (by first | with_reducible assumption | with_reducible exact lt5 (by assumption) | omega) (by simp [e]))]
      exact ih (by simpa using hp) fun i hi => by simpa using h (i + 1) (by first | with_reducible assumption | with_reducible exact lt5 (by assumption) | omega)
noncomputable def aft (l p : List Nat) : Option (List Nat) := match p with | [] => some l | c :: _ => after l c
open Builtin Builtin.Str in
theorem find_spec (l p : List Nat) (lo : Nat) (hp : p.length ≤ 1) (hlo : lo ≤ l.length) (r : Int) (hr : r = match occurrences (txt l) (txt p) lo l.length 1 with | k :: _ => (k : Int) | [] => -1) :
    (aft (l.drop lo) p = none ∧ r = -1) ∨ ∃ q : Nat, r = q ∧ q + p.length ≤ l.length ∧ aft (l.drop lo) p = some (l.drop (q + p.length)) := by
  have hat : ∀ i, StrLaws.At (txt l) (txt p) (txt l).length i ↔ i + p.length ≤ l.length ∧ (l.drop i).take p.length = p := by
    intro i
    unfold StrLaws.At
    rw [StrLaws.subAt_eq, txt_len, txt_len]
    simp [txt]
  have ho := StrLaws.occ_head_from (txt l) (txt p) lo 1 (Nat.le_refl _)
  rw [show (txt l).length = l.length from txt_len l] at ho hat
  rcases p with _ | ⟨c, _ | ⟨c', p⟩⟩
  · right
    rcases ho with ⟨h0, hn⟩ | ⟨i, rr, h0, h1, h2, h3⟩
    · exact absurd ((hat lo).mpr ⟨by simpa using hlo, by simp⟩) (hn lo (Nat.le_refl _))
    · have : i = lo := by
        by_cases q : lo < i
        · exact absurd ((hat lo).mpr ⟨by simpa using hlo, by simp⟩) (h3 lo (Nat.le_refl _) q)
        · omega
      subst this
      rw [h0] at hr
      exact ⟨i, hr, by simpa using hlo, by simp [aft]⟩
  · have hat' : ∀ i, StrLaws.At (txt l) (txt [c]) l.length i ↔ l[i]? = some c := by
      intro i
      rw [hat]
      constructor
      · rintro ⟨a, b⟩
        have e : (l.drop i)[0]? = ((l.drop i).take 1)[0]? := by simp
        rw [show (l.drop i).take 1 = [c] from b] at e
        simpa using e
      · intro e
        have hi := (List.getElem?_eq_some_iff.mp e)
        refine ⟨hi.1, ?_⟩
        show (l.drop i).take 1 = [c]
        rw [List.take_one, List.head?_drop, e]; rfl
    rcases ho with ⟨h0, hn⟩ | ⟨i, rr, h0, h1, h2, h3⟩
    · left
      rw [h0] at hr
      refine ⟨after_none fun i e => hn (lo + i) (by first | with_reducible assumption | with_reducible exact lt5 (by assumption) | omega) ((hat' _).mpr ?_), hr⟩
      rwa [List.getElem?_drop] at e
    · right
      rw [h0] at hr
      have h2' := (hat' i).mp h2
      refine ⟨i, hr, (List.getElem?_eq_some_iff.mp h2').1, ?_⟩
      have e := after_some (l := l.drop lo) (c := c) (p := i - lo) (by rw [List.getElem?_drop, show lo + (i - lo) = i by omega]; exact h2')
        (fun k hk q => h3 (lo + k) (by first | with_reducible assumption | with_reducible exact lt5 (by assumption) | omega) (by first | with_reducible assumption | with_reducible exact lt5 (by assumption) | omega) ((hat' _).mpr (by rwa [List.getElem?_drop] at q)))
      show after _ _ = _
      rw [e, List.drop_drop]
      congr 2
      simp; omega
  · simp at hp

noncomputable def dots (x y : Nat) : List Nat := [46, 46, 46] ++ [x] ++ [46, 46, 46] ++ [y] ++ [46, 46, 46]
noncomputable def abc : List Nat := [97, 98, 99, 100, 101]
theorem dots_in : ∀ x ∈ abc, ∀ y ∈ abc, Txt.contains (txt (dots x y)) (Str.ofString "...") = true := by decide +kernel
theorem dots_split : ∀ x ∈ abc, ∀ y ∈ abc, Txt.split (txt (dots x y)) (Str.ofString "...") = [txt [], txt [x], txt [y], txt []] := by decide +kernel
noncomputable def prts (x y : Nat) : List (List Nat) := [[], [x], [y], []]
noncomputable def walkP (ps : List (List Nat)) (l : List Nat) : Option (List Nat) := ps.foldl (fun o p => o.bind (aft · p)) (some l)
theorem walk_none (ps : List (List Nat)) : ps.foldl (fun o p => o.bind (aft · p)) none = none := by
  induction ps with
  | nil => rfl
  | cons p r ih => exact ih
theorem walk_at {ps : List (List Nat)} {p l : List Nat} {i : Nat} (h : ps[i]? = some p) : walkP (ps.take (i + 1)) l = (walkP (ps.take i) l).bind (aft · p) := by
  unfold walkP
  rw [List.take_add_one, h]; simp
theorem walk_stop {ps : List (List Nat)} {l : List Nat} {i : Nat} (h : walkP (ps.take i) l = none) : walkP ps l = none := by
  have e : walkP ps l = (ps.drop i).foldl (fun o p => o.bind (aft · p)) (walkP (ps.take i) l) := by
    unfold walkP
    rw [← List.foldl_append, List.take_append_drop]
  rw [e, h, walk_none]
noncomputable def comesP (l : List Nat) (x y : Nat) : Bool := ((after l x).bind (after · y)).isSome
theorem walk_comes (l : List Nat) (x y : Nat) : (walkP (prts x y) l).isSome = comesP l x y := by
  show (((((some l).bind (aft · [])).bind (aft · [x])).bind (aft · [y])).bind (aft · [])).isSome = _
  unfold comesP
  simp only [aft, Option.bind_some]
  cases (after l x).bind (after · y) <;> rfl
section
variable {prog : Program} {w : World} {A : Around} {E : Value → Shared → Prop} {s : Shared} {g : Heap}
open Builtin Builtin.Str in
theorem s_find4 {sH : Heap} {sG : Array GenState} {sD : Drawn} {sT : Nat} {sO : OsState} {l p : List Nat} {t u v k : Tok} {lo : Nat} {Q : Value → Shared → Prop} (hp : p.length ≤ 1) (hlo : lo ≤ l.length)
    (h : ∀ (r : Int) t u, (aft (l.drop lo) p = none ∧ r = -1) ∨ (∃ q : Nat, r = q ∧ q + p.length ≤ l.length ∧ aft (l.drop lo) p = some (l.drop (q + p.length))) → Q (.int r t) ⟨sH, sG, sD, u, sO⟩) :
    wpAny (model prog w) A (call (.builtin "str.find") [.str (txt l) t, .str (txt p) u, .int lo v, .int l.length k]) Q E ⟨sH, sG, sD, sT, sO⟩ := by
  refine call_gives F.slot_str_find (typeIs_str _ _ _) F.entry_str_find (F.args_str_find_4 _ _ _ _) (gives_find4 _ _ _ _ _ _ _ _) (h _ _ _ (find_spec l p lo hp hlo _ ?_))
  have e1 : fromIndex (txt l).length (lo : Int) = lo := by
    unfold fromIndex
    rw [if_neg (by first | with_reducible assumption | with_reducible exact lt5 (by assumption) | omega)]; omega
  have e2 : fromIndex (txt l).length (l.length : Int) = l.length := by
    unfold fromIndex
    rw [if_neg (by first | with_reducible assumption | with_reducible exact lt5 (by assumption) | omega)]; omega
  rw [e1, e2, txt_len, Nat.min_self]
theorem ellipsis {l : List Nat} {x y : Nat} {t u : Tok} (hA : Ar A 1) (G : Gk w s.heap) (hl : l.length ≤ 1000) (hx : x ∈ abc) (hy : y ∈ abc) :
    codeAny (model prog w) A (.call (.ref 63) ⟨[.str (txt (dots x y)) t, .str (txt l) u], []⟩) (Ends s fun v h => Kp s.heap h ∧ v = .bool (comesP l x y)) s := by
  refine enter ["want", "got"] ["ws", "startpos", "endpos", "w"] ["ELLIPSIS_MARKER", "len"] ["want", "got", "ws", "startpos", "endpos", "w"] [some (.str (txt (dots x y)) t), some (.str (txt l) u), none, none, none, none] (g := s.heap) (nw := []) hA.room (fn63 G) G.nolimit Kp.rf
    (by simp) (by simp) (by with_unfolding_all rfl) (by with_unfolding_all rfl) rfl (by decide +kernel) (by decide +kernel) (by decide +kernel) rfl rfl (fun env AA h₀ t₀ hAA C F => ?_)
  refine opq fun QQ EE hQQ _ => ?_
  have hA' := hAA (fun a => Ar a _) (hA.deeper env)
  refine wpAny_execs_cons <| wpAny_If <| wpAny_isTrue_Compare1 <| gl F.keep C (g_marker G) <| ld F C (by with_reducible repeat (first | exact At.hd | apply At.tl)) <| SB.notContains <| wpAny_truthy_bool ?_
  rw [dots_in x hx y hy, if_neg (by decide)]
  refine wpAny_execs_nil ?_
  try dsimp only
  refine wpAny_execs_cons <| wpAny_Assign_Name <| smeth PySem.F.slot_str_split PySem.F.type_str_split <| ld F C (by with_reducible repeat (first | exact At.hd | apply At.tl)) ⟨_, _, rfl, args_cons <| gl F.keep C (g_marker G) <| args_nil ?_⟩
  refine s_split F (by decide) (fun lt D h1 t1 hlt F1 => ?_) (by rw [txt_len]; simp [dots])
  rw [dots_split x hx y hy] at hlt
  obtain ⟨k0, l1, rfl, hlt1⟩ := KSpl.cons_of hlt
  obtain ⟨k1, l2, rfl, hlt2⟩ := KSpl.cons_of hlt1
  obtain ⟨k2, l3, rfl, hlt3⟩ := KSpl.cons_of hlt2
  obtain ⟨k3, l4, rfl, hlt4⟩ := KSpl.cons_of hlt3
  cases KSpl.nil_of hlt4
  simp only [strValues, List.map_cons, List.map_nil] at F1
  refine st F1 C fun h2 t2 F2 => ?_
  try dsimp only
  have hD := F2.hlb (a := D) (its := [.str (txt []) k0, .str (txt [x]) k1, .str (txt [y]) k2, .str (txt []) k3])
  have kb := F2.kb
  replace F2 := F2.base
  have G' := G.kp kb
  refine wpAny_execs_cons <| wpAny_Assert_new hA'.1 <| wpAny_isTrue_Compare1 <| cblt F2.keep C (g_len G') <| args_cons <| ld F2 C (by with_reducible repeat (first | exact At.hd | apply At.tl)) <| args_nil <| len_l (hD.kp F2.keep) (by simp) fun _ _ => k_int fun _ _ => i_ge ?_
  rw [if_pos (by simp)]
  try dsimp only
  refine wpAny_execs_cons <| Assign_Tuple_swapped (names := ["startpos", "endpos"]) (Tuple_ <| args_cons <| k_int fun k5 _ => args_cons <| cblt F2.keep C (g_len G') <| args_cons <| ld F2 C (by with_reducible repeat (first | exact At.hd | apply At.tl)) <| args_nil <| s_len (by first | with_reducible assumption | with_reducible exact lt5 (by assumption) | omega) fun k6 _ => args_nil ?_) rfl
    (swap2 C (by simp) (by simp) (by decide) (by decide) (by rfl) (by decide +kernel) (by decide +kernel))
  refine n_tuple F2 (by simp) fun a3 h3 F3 => unp hA'.1 ((F3.news (a3, _) List.mem_cons_self).1.elim fun o h => h.2 ▸ h.1) (fun h4 k4 => ?_) _ rfl
  have F4 := (F3.call k4).drop
  refine aio_r <| st F4 C fun h5 t5 F5 => ?_
  refine st F5 C fun h6 t6 F6 => ?_
  try dsimp only
  refine wpAny_execs_cons <| wpAny_Assign_Name <| Subscript_ <| ld F6 C (by with_reducible repeat (first | exact At.hd | apply At.tl)) <| k_int fun _ _ => item (hD.kp F6.keep) (by decide) (by decide) rfl <| st F6 C fun h7 t7 F7 => ?_
  try dsimp only
  refine wpAny_execs_cons <| wpAny_If <| isTrue_plain <| ld F7 C (by with_reducible repeat (first | exact At.hd | apply At.tl)) <| s_tru (by simp) fun _ => ?_
  rw [if_neg (by decide)]
  refine wpAny_execs_nil ?_
  try dsimp only
  refine wpAny_execs_cons <| wpAny_Assign_Name <| Subscript_ <| ld F7 C (by with_reducible repeat (first | exact At.hd | apply At.tl)) <| UnaryOp_ <| k_int fun _ _ => neg_int <| tail_any (hD.kp F7.keep).is.typeIs slot_list_getitem.lookup (wpAny_getItem_list_neg (hD.kp F7.keep).is (by decide) (by simp) (by decide) (x := .str (txt []) k3) rfl ?_) (by with_unfolding_all rfl)
  refine st F7 C fun h8 t8 F8 => ?_
  try dsimp only
  refine wpAny_execs_cons <| wpAny_If <| isTrue_plain <| ld F8 C (by with_reducible repeat (first | exact At.hd | apply At.tl)) <| s_tru (by simp) fun _ => ?_
  rw [if_neg (by decide)]
  refine wpAny_execs_nil ?_
  try dsimp only
  refine wpAny_execs_cons <| wpAny_If <| wpAny_isTrue_Compare1 <| ld F8 C (by with_reducible repeat (first | exact At.hd | apply At.tl)) <| ld F8 C (by with_reducible repeat (first | exact At.hd | apply At.tl)) <| i_gt ?_
  rw [if_neg (by simp)]
  refine wpAny_execs_nil ?_
  try dsimp only
  refine wpAny_execs_cons <| wpAny_For <| ld F8 C (by with_reducible repeat (first | exact At.hd | apply At.tl)) <| iter_list F8 (hD.kp F8.keep).is fun it h9 F9 => ?_
  try dsimp only
  refine for_in (gen_list prog w D [.str (txt []) k0, .str (txt [x]) k1, .str (txt [y]) k2, .str (txt []) k3]) (σ := Nat × Tok × Option Value)
    (fun p => [some (.str (txt (dots x y)) t), some (.str (txt l) u), some (.ref D), some (.int p.1 p.2.1), some (.int l.length k6), p.2.2])
    (fun p v => [some (.str (txt (dots x y)) t), some (.str (txt l) u), some (.ref D), some (.int p.1 p.2.1), some (.int l.length k6), some v])
    (fun p => []) (fun i p => p.1 ≤ l.length ∧ walkP ((prts x y).take i) l = some (l.drop p.1)) (0, k5, _) hA'.1 C (fun h k => (hD.kp k).is) F9 ⟨by omega, rfl⟩ (fun p v => by walk_at "put") ?_ ?_
  · rintro i ⟨lo, kl, ow⟩ v h10 t10 hi ⟨hlo, hw⟩ hv F10
    refine opq fun Q1 E1 hQ1 _ => ?_
    try dsimp only at F10 hlo hw
    have hp : ∃ p k, v = .str (txt p) k ∧ p.length ≤ 1 ∧ (prts x y)[i]? = some p := by
      have hi' : i < 4 := hi
      have : i = 0 ∨ i = 1 ∨ i = 2 ∨ i = 3 := by omega
      rcases this with rfl | rfl | rfl | rfl
      · cases hv; exact ⟨[], k0, rfl, by decide, rfl⟩
      · cases hv; exact ⟨[x], k1, rfl, by simp, rfl⟩
      · cases hv; exact ⟨[y], k2, rfl, by simp, rfl⟩
      · cases hv; exact ⟨[], k3, rfl, by decide, rfl⟩
    obtain ⟨p, kp, rfl, hpl, hpi⟩ := hp
    have hw' := walk_at (l := l) hpi
    rw [hw, Option.bind_some] at hw'
    refine wpAny_execs_cons <| wpAny_Assign_Name <| smeth PySem.F.slot_str_find PySem.F.type_str_find <| ld F10 C (by with_reducible repeat (first | exact At.hd | apply At.tl)) ⟨_, _, rfl, args_cons <| ld F10 C (by with_reducible repeat (first | exact At.hd | apply At.tl)) <| args_cons <| ld F10 C (by with_reducible repeat (first | exact At.hd | apply At.tl)) <| args_cons <| ld F10 C (by with_reducible repeat (first | exact At.hd | apply At.tl)) <| args_nil <| s_find4 hpl hlo fun r kr _ hr => ?_⟩
    refine st F10 C fun h11 t11 F11 => ?_
    try dsimp only
    refine mid2 (fun s' => ∃ q : Nat, (r = q ∧ q + p.length ≤ l.length ∧ aft (l.drop lo) p = some (l.drop (q + p.length))) ∧ ∃ hh tt, s' = { s with heap := hh, toks := tt } ∧ Sx (h2.hide env.locals) env.locals hh ["want", "got", "ws", "startpos", "endpos", "w"]
      [some (.str (txt (dots x y)) t), some (.str (txt l) u), some (.ref D), some (.int q kr), some (.int l.length k6), some (.str (txt p) kp)] [(it, isLi D (i + 1))]) ?_ ?_
    · refine opq fun Q2 E2 hQ2 _ => ?_
      refine wpAny_If <| wpAny_isTrue_Compare1 <| ld F11 C (by with_reducible repeat (first | exact At.hd | apply At.tl)) <| k_int fun _ _ => i_lt ?_
      rcases hr with ⟨hn, rfl⟩ | ⟨q, rfl, hq, ha⟩
      · rw [if_pos (by decide)]
        refine wpAny_execs_cons <| wpAny_Return_some <| k_bool ?_
        rw [hn] at hw'
        exact hQ2 _ _ <| .inr ⟨_, rfl, hQ1 _ _ <| hQQ _ _ ⟨_, _, _, rfl, rfl, kb.tr F11.keep, by rw [← walk_comes, walk_stop hw']; rfl⟩⟩
      · rw [if_neg (by simp)]
        exact wpAny_execs_nil (hQ2 _ _ (.inl ⟨rfl, q, ⟨rfl, hq, ha⟩, _, _, rfl, F11⟩))
    · rintro s' ⟨q, ⟨rfl, hq, ha⟩, h12, t12, rfl, F12⟩
      refine wpAny_execs_cons <| wpAny_AugAssign_Name <| ldn F12 C (by with_reducible repeat (first | exact At.hd | apply At.tl)) <| cblt F12.keep C (g_len G') <| args_cons <| ld F12 C (by with_reducible repeat (first | exact At.hd | apply At.tl)) <| args_nil <| s_len (by first | with_reducible assumption | with_reducible exact lt5 (by assumption) | omega) fun _ _ => i_iadd fun _ _ => st F12 C fun h13 t13 F13 => ?_
      try dsimp only
      rw [show (q : Int) + (p.length : Int) = ((q + p.length : Nat) : Int) by omega] at F13
      exact wpAny_execs_nil (hQ1 _ _ ⟨_, _, (_, _, _), rfl, ⟨hq, by rw [hw', ha]⟩, F13⟩)
  · rintro ⟨lo, kl, ow⟩ h10 t10 ⟨hlo, hw⟩ F10
    try dsimp only at F10 hlo hw ⊢
    refine wpAny_execs_cons <| wpAny_Return_some <| k_bool ?_
    refine hQQ _ _ ⟨_, _, _, rfl, rfl, kb.tr F10.keep, ?_⟩
    have hw'' : walkP (prts x y) l = some (l.drop lo) := hw
    rw [← walk_comes, hw'']; rfl
end

section
variable {prog : Program} {w : World} {A : Around} {E : Value → Shared → Prop} {s : Shared} {g : Heap}
theorem abc_at {i : Nat} (h : i < 5) : abc[i]? = some (97 + i) := by
  have : i = 0 ∨ i = 1 ∨ i = 2 ∨ i = 3 ∨ i = 4 := by omega
  rcases this with rfl | rfl | rfl | rfl | rfl <;> rfl
theorem abc_mem {i : Nat} (h : i < 5) : 97 + i ∈ abc := List.mem_of_getElem? (abc_at h)
theorem law_comes {l : List Nat} {i k : Nat} {t u v : Tok} (hA : Ar A 2) (G : Gk w s.heap) (hl : l.length ≤ 1000) (hi : i < 5) (hk : k < 5) :
    codeAny (model prog w) A (.call (.ref 155) ⟨[.str (txt l) t, .int i u, .int k v], []⟩) (Ends s fun v h => Kp s.heap h ∧ v = .bool (comesP l (97 + i) (97 + k))) s := by
  refine enter ["word", "i", "k"] [] ["_ellipsis_match"] ["word", "i", "k"] [some (.str (txt l) t), some (.int i u), some (.int k v)] (g := s.heap) (nw := []) hA.room (fn155 G) G.nolimit Kp.rf
    (by simp) (by simp) (by with_unfolding_all rfl) (by with_unfolding_all rfl) rfl (by decide +kernel) (by decide +kernel) (by decide +kernel) rfl rfl (fun env AA h₀ t₀ hAA C F => ?_)
  refine opq fun QQ EE hQQ _ => ?_
  have hA' := hAA (fun a => Ar a _) (hA.deeper env)
  refine wpAny_execs_cons <| wpAny_Return_some <| cdef F.keep C (g_ellipsis G) (fn63 G) <| args_cons <| wpAny_BinOp <| wpAny_BinOp <| wpAny_BinOp <| wpAny_BinOp <| k_str fun _ _ => Subscript_ <| k_str fun _ _ => ld F C (by with_reducible repeat (first | exact At.hd | apply At.tl)) <| s_item (x := abc) (by first | with_reducible assumption | with_reducible exact lt5 (by assumption) | omega) (abc_at hi) fun _ _ => ?_
  refine s_add (x := [46, 46, 46]) (by simp) fun _ _ => k_str fun _ _ => s_add (y := [46, 46, 46]) (by simp) fun _ _ => Subscript_ <| k_str fun _ _ => ld F C (by with_reducible repeat (first | exact At.hd | apply At.tl)) <| s_item (x := abc) (by first | with_reducible assumption | with_reducible exact lt5 (by assumption) | omega) (abc_at hk) fun _ _ => s_add (by simp) fun _ _ => k_str fun _ _ => s_add (y := [46, 46, 46]) (by simp) fun _ _ => ?_
  refine args_cons <| ld F C (by with_reducible repeat (first | exact At.hd | apply At.tl)) <| args_nil ⟨F.keep, use (ellipsis (hA'.le (by decide)) (G.kp F.keep) hl (abc_mem hi) (abc_mem hk)) fun v h1 t1 hv => ?_⟩
  obtain ⟨k1, rfl⟩ := hv
  exact hQQ _ _ ⟨_, _, _, rfl, rfl, F.keep.tr k1, rfl⟩
end

/-! hiding a list of places; a frame's heap as its new base -/
noncomputable def hides (h : Heap) : List Addr → Heap
  | [] => h
  | a :: l => (hides h l).hide a
theorem hides_none {h : Heap} {l : List Addr} {b : Addr} (hb : b ∈ l) : (hides h l).get? b = none := by
  induction l with
  | nil => cases hb
  | cons a l ih =>
    by_cases q : b = a
    · subst q; exact Heap.hide_self ..
    · rw [hides, Heap.hide_ne _ q]
      exact ih ((List.mem_cons.mp hb).resolve_left q)
theorem hides_get {h : Heap} {l : List Addr} {b : Addr} (hb : b ∉ l) : (hides h l).get? b = h.get? b := by
  induction l with
  | nil => rfl
  | cons a l ih =>
    rw [hides, Heap.hide_ne _ (fun q : b = a => hb (by rw [q]; exact List.mem_cons_self))]
    exact ih fun q => hb (List.mem_cons_of_mem _ q)
theorem hides_kp {h : Heap} {l : List Addr} : Kp (hides h l) h := fun b o e => by
  by_cases q : b ∈ l
  · rw [hides_none q] at e; cases e
  · rwa [hides_get q] at e
noncomputable abbrev keys (L : Addr) (nw : Nw) : List Addr := L :: nw.map (·.1)
section
variable {g h h' : Heap} {L : Addr} {ns : List Str} {vs vs' : List (Option Value)} {nw nw' : Nw}
theorem Sx.live (F : Sx g L h ns vs nw) {b : Addr} (hb : b ∈ keys L nw) : ∃ o, h.get? b = some o := by
  rcases List.mem_cons.mp hb with rfl | hb
  · obtain ⟨o, _, _, e, _⟩ := F.loc; exact ⟨o, e⟩
  · obtain ⟨p, hp, rfl⟩ := List.mem_map.mp hb
    obtain ⟨⟨o, e, _⟩, _⟩ := F.news p hp; exact ⟨o, e⟩
theorem Sx.out (F : Sx g L h ns vs nw) {b : Addr} (hb : b ∈ keys L nw) : g.get? b = none := by
  rcases List.mem_cons.mp hb with rfl | hb
  · exact F.noL
  · obtain ⟨p, hp, rfl⟩ := List.mem_map.mp hb
    exact (F.news p hp).2.2
theorem Sx.rebase (F : Sx g L h ns vs nw) : Sx (hides h (keys L nw)) L h ns vs nw :=
  ⟨F.loc, hides_kp, hides_none List.mem_cons_self, fun p hp => ⟨(F.news p hp).1, (F.news p hp).2.1, hides_none (List.mem_cons_of_mem _ (List.mem_map_of_mem (f := fun x : Addr × (Obj → Prop) => x.1) hp))⟩, F.nd⟩
theorem Sx.kbase (F : Sx g L h ns vs nw) : Kp g (hides h (keys L nw)) := fun b o e => by
  rw [hides_get (fun q => by rw [F.out q] at e; cases e)]
  exact F.keep b o e
/-- the first new object becomes part of the base -/
theorem Sx.fz {a : Addr} {P : Obj → Prop} (F : Sx g L h ns vs ((a, P) :: nw)) : ∃ g', Kp g g' ∧ (∃ o, g'.get? a = some o ∧ P o) ∧ Sx g' L h ns vs nw := by
  refine ⟨hides h (keys L nw), F.drop.kbase, ?_, F.drop.rebase⟩
  obtain ⟨⟨o, e, hp⟩, n, _⟩ := F.news _ List.mem_cons_self
  refine ⟨o, ?_, hp⟩
  rw [hides_get]
  · exact e
  · intro q
    rcases List.mem_cons.mp q with q | q
    · exact n q
    · exact (List.nodup_cons.mp F.nd).1 q
/-- what is new since a heap joins the base -/
theorem Sx.join (F : Sx g L h ns vs nw) (k : Kp h h') : ∃ B', Kp g B' ∧ Sx B' L h' ns vs nw ∧ ∀ b o, h.get? b = none → h'.get? b = some o → B'.get? b = some o :=
  ⟨_, (F.call k).kbase, (F.call k).rebase, fun b o e1 e2 => by
    rw [hides_get]
    · exact e2
    · intro q
      obtain ⟨o', e'⟩ := F.live q
      rw [e1] at e'; cases e'⟩
theorem lk_none (rest : List Str) (x : Str) : lk rest (rest.map fun _ => none) x = none := by
  induction rest with
  | nil => rfl
  | cons n r ih => simp only [List.map_cons, lk]; split <;> first | rfl | exact ih
end
noncomputable def isC (v : Option Value) : Obj → Prop := fun o => o.data = .cell v
structure Ce (env : Env) (x : Str) (c : Addr) : Prop where
  kind : env.scope.kind = .function
  cell : env.kindOf x = some .cell
  dbg : (x == ("__debug__" : Str)) = false
  addr : env.cells.lookup x = some c
section
variable {M : Model} {A : Around} {E : Value → Shared → Prop} {s : Shared} {env : Env} {g : Heap} {L : Addr} {ns gs : List Str} {vs : List (Option Value)} {nw nw' : Nw}
theorem ldc {x : Str} {pos : Pos} {c : Addr} {v : Value} {Q : Value → Shared → Prop} (F : Sx g L s.heap ns vs nw) (K : Ce env x c) (h : Q v s) (m : (c, isC (some v)) ∈ nw := by walk_at "mem") : wpAny M A (eval (.Name x pos) env) Q E s :=
  wpAny_Name (wpAny_loadName_cell K.kind K.cell K.addr (F.news _ m).1 h) K.dbg
theorem ldk {x : Str} {pos : Pos} {c : Addr} {v : Value} {Q : Value → Shared → Prop} (k : Kp g s.heap) (K : Ce env x c) (hc : ∃ o, g.get? c = some o ∧ isC (some v) o) (h : Q v s) : wpAny M A (eval (.Name x pos) env) Q E s :=
  let ⟨o, e, d⟩ := hc; wpAny_Name (wpAny_loadName_cell K.kind K.cell K.addr ⟨o, k _ _ e, d⟩ h) K.dbg
theorem stc {sH : Heap} {sG : Array GenState} {sD : Drawn} {sT : Nat} {sO : OsState} {x : Str} {c : Addr} {v₀ : Option Value} {v : Value} {Q : Unit → Shared → Prop} (F : Sx g L sH ns vs nw) (K : Ce env x c)
    (h : ∀ h', Sx g L h' ns vs nw' → Q () ⟨h', sG, sD, sT, sO⟩) (ch : Ch c (isC v₀) (isC (some v)) nw nw' := by walk_at "ch") : wpAny M A (storeName env x v) Q E ⟨sH, sG, sD, sT, sO⟩ :=
  wpAny_storeName_cell K.kind K.cell K.addr (F.news _ ch.mem).1 fun h' hc hs => h h' (F.mut (KpB.of_same hs) hc ch)

theorem look_relabel {sc : Scope} {x : Str} {k : NameKind} (hk : k ≠ .free) (h : sc.names.lookup x = some k) : (relabel sc env).names.lookup x = some k := by
  unfold relabel
  try dsimp only
  generalize sc.names = l at h
  induction l with
  | nil => cases h
  | cons p r ih =>
    obtain ⟨n, q⟩ := p
    by_cases e : x = n
    · subst e
      rw [List.lookup_cons, beq_self_eq_true] at h
      cases h
      have : (k == NameKind.free) = false := by simpa using hk
      rw [List.map_cons]
      try dsimp only
      rw [this, Bool.false_and, Bool.false_and, if_neg (by decide), List.lookup_cons, beq_self_eq_true]
    · have e' : (x == n) = false := beq_eq_false_iff_ne.mpr e
      rw [List.lookup_cons, e'] at h
      have ih := ih h
      rw [List.map_cons]
      try dsimp only
      split <;> (rw [List.lookup_cons, e']; exact ih)
theorem look_relabel_free {sc : Scope} {x : Str} (hf : env.scope.kind = .function) (hc : env.kindOf x = some .cell) (h : sc.names.lookup x = some .free) : (relabel sc env).names.lookup x = some .cell := by
  unfold relabel
  try dsimp only
  generalize sc.names = l at h
  induction l with
  | nil => cases h
  | cons p r ih =>
    obtain ⟨n, q⟩ := p
    by_cases e : x = n
    · subst e
      rw [List.lookup_cons, beq_self_eq_true] at h
      cases h
      simp [hf, hc]
    · have e' : (x == n) = false := beq_eq_false_iff_ne.mpr e
      rw [List.lookup_cons, e'] at h
      have ih := ih h
      rw [List.map_cons]
      try dsimp only
      split <;> (rw [List.lookup_cons, e']; exact ih)
theorem En.comp {sc : Scope} {cl : List (Str × Addr)} {cns cgs : List Str} (C : En env ns gs) (ok : scOk sc cns cgs = true) (D : Addr) : En (compEnvC sc cl D env) cns cgs := by
  simp only [scOk, Bool.and_eq_true, List.all_eq_true, beq_iff_eq, Bool.not_eq_true', decide_eq_true_eq] at ok
  exact ⟨ok.1.1.1, fun x hx => ⟨look_relabel (by decide) (ok.1.1.2 x hx).1, (ok.1.1.2 x hx).2⟩, fun x hx => ⟨look_relabel (by decide) (ok.1.2 x hx).1, (ok.1.2 x hx).2⟩, ok.2, C.gl, C.bl⟩
theorem Ce.comp {sc : Scope} {cl : List (Str × Addr)} {x : Str} {c : Addr} (K : Ce env x c) (D : Addr) (hk : sc.kind = .function) (hx : sc.names.lookup x = some .free) (hl : cl.lookup x = some c) : Ce (compEnvC sc cl D env) x c :=
  ⟨hk, look_relabel_free K.kind K.cell hx, K.dbg, hl⟩
end

section
variable {prog : Program} {w : World} {A : Around} {E : Value → Shared → Prop} {s : Shared} {cenv : Env} {g : Heap} {cns cgs : List Str} {nw : Nw}
/-- how the loop's name is bound -/
noncomputable def Binds (prog : Program) (w : World) (A : Around) (cenv : Env) (target : PySem.Expr) (cns : List Str) (V : Option Value → List (Option Value)) (X : Option Value → Nw) : Prop :=
  ∀ (E : Value → Shared → Prop) (Q : Unit → Shared → Prop) (s : Shared) (o : Option Value) (v : Value) (B : Heap) (p q : Addr × (Obj → Prop)) (post : Nw), Sx B cenv.locals s.heap cns (V o) (p :: q :: (X o ++ post)) →
    (∀ h' t', Sx B cenv.locals h' cns (V (some v)) (p :: q :: (X (some v) ++ post)) → Q () { s with heap := h', toks := t' }) → wpAny (model prog w) A (assign target cenv v) Q E s
theorem binds_local {x : Str} {px : Pos} (C : En cenv [x] cgs) : Binds prog w A cenv (.Name x px) [x] (fun o => [o]) (fun _ => []) :=
  fun E Q s o v B p q post F h => wpAny_assign_Name (st F C fun h' t' F' => h h' t' F')
theorem binds_cell {x : Str} {px : Pos} {c : Addr} (K : Ce cenv x c) : Binds prog w A cenv (.Name x px) [] (fun _ => []) (fun o => [(c, isC o)]) :=
  fun E Q s o v B p q post F h => wpAny_assign_Name (stc (v₀ := o) (nw' := p :: q :: ([(c, isC (some v))] ++ post)) F K (fun h' F' => h h' _ F') (Ch.tl (Ch.tl Ch.hd)))

theorem comp_loop {sH : Heap} {sG : Array GenState} {sD : Drawn} {sT : Nat} {sO : OsState} {n : Nat} {S : Nat → Obj → Prop} {val : Nat → Value → Prop} {ok : Heap → Prop} {it acc : Addr} {elt target iter : PySem.Expr} {ifs : List PySem.Expr} {scope : Scope} {pos : Pos} {R : Result → Shared → Prop}
    (G : Gen prog w n S val ok) (V : Option Value → List (Option Value)) (X : Option Value → Nw) (J : Nat → Heap → List Value → Prop) (o₀ : Option Value) (hn : n ≤ 1000) (hh : A.handled = none)
    (okg : ∀ h, Kp g h → ok h) (F : Sx g cenv.locals sH cns (V o₀) ((it, S 0) :: (acc, isL []) :: (X o₀ ++ nw))) (h0 : J 0 g [])
    (put : Binds prog w A cenv target cns V X) (hown : ∀ v, letOwnedTupleGo target (.ref it) v = pure ())
    (step : ∀ i B ys v h t E', i < n → J i B ys → val i v → Kp g B → Sx B cenv.locals h cns (V (some v)) ((it, S (i + 1)) :: (acc, isL ys) :: (X (some v) ++ nw)) →
      wpAny (model prog w) A (forIn ifs true fun c r => if r = true then do let ok ← isTrue c cenv (eval c cenv); pure (ForInStep.yield ok) else pure (ForInStep.yield r)) (fun b s₃ => ∃ h₃ t₃ B₃, s₃ = ⟨h₃, sG, sD, t₃, sO⟩ ∧ Kp B B₃ ∧
        Sx B₃ cenv.locals h₃ cns (V (some v)) ((it, S (i + 1)) :: (acc, isL ys) :: (X (some v) ++ nw)) ∧
        if b = true then wpAny (model prog w) A (eval elt cenv) (fun y s₄ => ∃ h₄ t₄ B₄, s₄ = ⟨h₄, sG, sD, t₄, sO⟩ ∧ Kp B₃ B₄ ∧
          Sx B₄ cenv.locals h₄ cns (V (some v)) ((it, S (i + 1)) :: (acc, isL ys) :: (X (some v) ++ nw)) ∧ J (i + 1) B₄ (ys ++ [y])) E' s₃
        else J (i + 1) B₃ ys) E' ⟨h, sG, sD, t, sO⟩)
    (fin : ∀ B ys o h t, J n B ys → Kp g B → Sx B cenv.locals h cns (V o) ((acc, isL ys) :: (X o ++ nw)) → R (.ok .next) ⟨h, sG, sD, t, sO⟩) :
    codeAny (model prog w) A (.compLoop (.ListComp elt [⟨target, iter, ifs, 0⟩] scope pos) 0 (.ref it) (.ref acc) cenv) R ⟨sH, sG, sD, sT, sO⟩ := by
  refine codeAny_compLoop_tests (fun k s' => ∃ i B ys o h t, k = n - i ∧ i ≤ n ∧ s' = ⟨h, sG, sD, t, sO⟩ ∧ J i B ys ∧ ys.length ≤ i ∧ Kp g B ∧ Sx B cenv.locals h cns (V o) ((it, S i) :: (acc, isL ys) :: (X o ++ nw))) ?_ n
    ⟨0, g, [], o₀, _, _, rfl, Nat.zero_le _, rfl, h0, Nat.le_refl _, Kp.rf, F⟩ hown
  rintro k s' ⟨i, B, ys, o, h, t, rfl, hi, rfl, hJ, hy, hB, F⟩
  have hit := (F.news (it, S i) List.mem_cons_self).1
  by_cases hlt : i < n
  · refine G.item hlt hit (okg _ (hB.tr F.keep)) fun h₁ t₁ v k₁ ho hv => ?_
    have F₁ : Sx B cenv.locals h₁ cns (V o) ((it, S (i + 1)) :: (acc, isL ys) :: (X o ++ nw)) := F.mut k₁ ho Ch.hd
    refine put _ _ _ _ v _ _ _ _ F₁ fun h₂ t₂ F₂ => ?_
    refine wpAny_mono (step i B ys v h₂ t₂ _ hlt hJ hv hB F₂) (fun b s₃ h₃ => ?_) fun _ _ e => e
    obtain ⟨h₃, t₃, B₃, rfl, k₃, F₃, hb⟩ := h₃
    cases b with
    | false =>
      rw [if_neg (by decide)] at hb ⊢
      exact ⟨n - (i + 1), by omega, i + 1, B₃, ys, some v, h₃, t₃, rfl, hlt, rfl, hb, Nat.le_succ_of_le hy, hB.tr k₃, F₃⟩
    | true =>
      rw [if_pos rfl] at hb ⊢
      refine wpAny_mono hb (fun y s₄ h₄ => ?_) fun _ _ e => e
      obtain ⟨h₄, t₄, B₄, rfl, k₄, F₄, hj⟩ := h₄
      have hacc : Hl h₄ acc ys := F₄.isl (List.mem_cons_of_mem _ List.mem_cons_self)
      obtain ⟨oo, ee, nn, rfl⟩ := id hacc
      refine wpAny_list_append_plain (items := ys.toArray) ⟨nn, ee⟩ (fun h₅ hl₅ hs₅ => ?_) (by rw [List.size_toArray, sizeLine_eq]; omega)
      have hl₅' : Hl h₅ acc (ys ++ [y]) := by
        obtain ⟨n', e'⟩ := hl₅
        exact ⟨_, e', n', by simp⟩
      have F₅ := F₄.mut (h' := h₅) (KpB.of_same hs₅) hl₅' (Ch.tl Ch.hd)
      exact ⟨n - (i + 1), by omega, i + 1, B₄, ys ++ [y], some v, _, t₄, rfl, hlt, rfl, hj, by simp; omega, (hB.tr k₃).tr k₄, F₅⟩
  · have hin : i = n := by omega
    subst hin
    refine G.stop hh hit (okg _ (hB.tr F.keep)) fun h₁ k₁ => ?_
    have m := F.news (it, S i) List.mem_cons_self
    have F' := F.drop
    refine fin B ys o h₁ t hJ hB ⟨ns_kp F'.loc (fun o e => k₁ _ o (Ne.symm m.2.1) e), k₁.kp F'.keep m.2.2, F'.noL, fun p hp => ?_, F'.nd⟩
    obtain ⟨⟨o, e, r⟩, q⟩ := F'.news p hp
    refine ⟨⟨o, k₁ _ _ (fun z => ?_) e, r⟩, q⟩
    have nd := F.nd
    rw [List.map_cons] at nd
    refine (List.nodup_cons.mp nd).1 ?_
    show it ∈ _
    rw [← z]; exact List.mem_map_of_mem (f := fun x : Addr × (Obj → Prop) => x.1) hp
end

section
variable {prog : Program} {w : World} {A : Around} {E : Value → Shared → Prop} {s : Shared} {env : Env} {g : Heap} {ns gs : List Str} {vs : List (Option Value)} {nw : Nw}
/-- the frame of the comprehension, made -/
theorem Sx.inner {L C : Addr} {h h' : Heap} {cns : List Str} {cd : Obj} (F : Sx g L h ns vs nw) (hC : C = h.objs.size) (hns : h'.Ns C (fun _ => none)) (hs : Heap.SameBut C (h.push cd) h') :
    ∃ oL, h.get? L = some oL ∧ Sx g C h' cns (cns.map fun _ => none) (nw ++ [(L, isO oL)]) := by
  obtain ⟨oL, es, ep, eL, rL⟩ := F.loc
  have nC : ∀ b o, h.get? b = some o → b ≠ C := fun b o e q => by
    have := Heap.lt_size e
    rw [q, hC] at this; exact Nat.lt_irrefl _ this
  have k : Kp h h' := fun b o e => (hs.2 b (nC b o e)).trans (Heap.get?_push_of_some _ e)
  refine ⟨oL, eL, ?_, F.keep.tr k, ?_, fun p hp => ?_, ?_⟩
  · rw [show lk cns (cns.map fun _ => none) = fun _ => none from funext (lk_none cns)]; exact hns
  · cases q : g.get? C with
    | none => rfl
    | some o => exact absurd rfl (nC _ _ (F.keep _ _ q))
  · rcases List.mem_append.mp hp with hp | hp
    · obtain ⟨⟨o, e, r⟩, z⟩ := F.news p hp
      exact ⟨⟨o, k _ _ e, r⟩, nC _ _ e, z.2⟩
    · cases List.mem_singleton.mp hp
      exact ⟨⟨oL, k _ _ eL, rfl⟩, nC _ _ eL, F.noL⟩
  · rw [List.map_append]
    refine List.nodup_append.mpr ⟨F.nd, by simp, fun a ha b hb => ?_⟩
    obtain ⟨p, hp, rfl⟩ := List.mem_map.mp ha
    cases List.mem_singleton.mp hb
    exact (F.news p hp).2.1
/-- back in the frame around it -/
theorem Sx.outer {L C : Addr} {B h h₀ h' : Heap} {cns : List Str} {cvs : List (Option Value)} {oL : Obj} {keep rest : Nw} (F₀ : Sx g L h₀ ns vs nw) (eL : h₀.get? L = some oL)
    (F : Sx B C h cns cvs rest) (hs : Heap.SameBut C h h') (hL : (L, isO oL) ∈ rest) (sub : ∀ p ∈ keep, p ∈ rest) (nL : ∀ p ∈ keep, p.1 ≠ L) (nd : (keep.map (·.1)).Nodup) : Sx B L h' ns vs keep := by
  obtain ⟨⟨o, e, r⟩, z⟩ := F.news _ hL
  refine ⟨ns_kp F₀.loc (fun o' e' => ?_), fun b o e => (hs.2 b (fun q => by rw [q, F.noL] at e; cases e)).trans (F.keep _ _ e), z.2, fun p hp => ?_, nd⟩
  · rw [eL] at e'; cases e'
    rw [hs.2 L z.1, e]; exact congrArg some r
  · obtain ⟨⟨o, e, r⟩, z⟩ := F.news p (sub p hp)
    exact ⟨⟨o, (hs.2 _ z.1).trans e, r⟩, nL p hp, z.2⟩

theorem lc_open {elt target iter : PySem.Expr} {ifs : List PySem.Expr} {scope : Scope} {cl : List (Str × Addr)} {pos : Pos} {Q : Value → Shared → Prop}
    (hclos : closureFor scope env = pure cl) (hkind : scope.kind = .function) (hnames : ∀ x ∈ scope.names, x.2 = .local → scope.names.lookup x.1 = some .local)
    (h : wpAny (model prog w) A (eval iter env) (fun x s₁ => wpAny (model prog w) A (pyIter x) (fun it s₂ => wpAny (model prog w) A (newList []) (fun acc s₃ =>
      wpAny (model prog w) A (newFunctionEnv scope env.globals cl [] env.qual none .none (some env)) (fun cenv s₄ =>
        codeAny (model prog w) A (.compStart (.ListComp elt [⟨target, iter, ifs, 0⟩] scope pos) 0 it acc { cenv with scope := relabel scope env }) (compPost (model prog w) A E none Q acc cenv.locals) s₄) E s₃) E s₂) E s₁) E s)
    (hs : ∀ x, foldedSetIterable iter env x = pure x := by intro _; rfl) :
    wpAny (model prog w) A (eval (.ListComp elt [⟨target, iter, ifs, 0⟩] scope pos) env) Q E s := by
  rw [eval_ListComp]
  exact wpAny_comprehension_free (use := none) rfl hs hclos hkind hnames h
theorem lc_asg {elt target iter : PySem.Expr} {ifs : List PySem.Expr} {scope : Scope} {cl : List (Str × Addr)} {pos spos py : Pos} {y : Str} {Q : Flow → Shared → Prop}
    (hsw : swapsWith (.ListComp elt [⟨target, iter, ifs, 0⟩] scope pos) (some (.Name y py)) spos.line env = pure true)
    (hclos : closureFor scope env = pure cl) (hkind : scope.kind = .function) (hnames : ∀ x ∈ scope.names, x.2 = .local → scope.names.lookup x.1 = some .local)
    (h : wpAny (model prog w) A (eval iter env) (fun x s₁ => wpAny (model prog w) A (pyIter x) (fun it s₂ => wpAny (model prog w) A (newList []) (fun acc s₃ =>
      wpAny (model prog w) A (newFunctionEnv scope env.globals cl [] env.qual none .none (some env)) (fun cenv s₄ =>
        codeAny (model prog w) A (.compStart (.ListComp elt [⟨target, iter, ifs, 0⟩] scope pos) 0 it acc { cenv with scope := relabel scope env }) (compPost (model prog w) A E (some (assign (.Name y py) env)) (fun _ s' => Q .next s') acc cenv.locals) s₄) E s₃) E s₂) E s₁) E s)
    (hs : ∀ x, foldedSetIterable iter env x = pure x := by intro _; rfl) :
    wpAny (model prog w) A (exec (.Assign [.Name y py] (.ListComp elt [⟨target, iter, ifs, 0⟩] scope pos) spos) env) Q E s := by
  rw [exec_Assign_Name_used _ _ _ _ hsw]
  refine wpAny_bind (wpAny_standAt (wpAny_bind ?_))
  show wpAny _ A (do let _ ← comprehension (.ListComp elt [⟨target, iter, ifs, 0⟩] scope pos) scope env _ (newList []) false (eval iter env) (some (assign (.Name y py) env))) _ _ s
  exact wpAny_bind (wpAny_mono (wpAny_comprehension_free (use := some (assign (.Name y py) env)) (Q := fun _ s' => Q .next s') rfl hs hclos hkind hnames h) (fun _ s' hq => wpAny_pure (wpAny_pure hq)) fun _ _ e => e)

/-- the comprehension from its iterator on; what is behind it is left to `fin` -/
theorem comp_core {sH : Heap} {sG : Array GenState} {sD : Drawn} {sT : Nat} {sO : OsState} {n : Nat} {S : Nat → Obj → Prop} {val : Nat → Value → Prop} {ok : Heap → Prop} {it : Addr} {elt iter : PySem.Expr} {x : Str} {px : Pos} {ifs : List PySem.Expr} {scope : Scope} {cl : List (Str × Addr)} {pos : Pos} {cgs : List Str}
    {RR : Value → Addr → Result → Shared → Prop}
    (G : Gen prog w n S val ok) (J : Nat → Heap → List Value → Prop) (hn : n ≤ 1000) (hh : A.handled = none) (C : En env ns gs) (hsc : scOk scope [x] cgs = true) (hcell : ∀ y ∈ scope.names, y.2 ≠ .cell)
    (okg : ∀ h, Kp g h → ok h) (F : Sx g env.locals sH ns vs ((it, S 0) :: nw)) (h0 : J 0 g [])
    (step : ∀ D acc oL i B ys v h t E', i < n → J i B ys → val i v → Kp g B → En (compEnvC scope cl D env) [x] cgs → Sx B (compEnvC scope cl D env).locals h [x] [some v] ((it, S (i + 1)) :: (acc, isL ys) :: (nw ++ [(env.locals, isO oL)])) →
      wpAny (model prog w) A (forIn ifs true fun c r => if r = true then do let ok ← isTrue c (compEnvC scope cl D env) (eval c (compEnvC scope cl D env)); pure (ForInStep.yield ok) else pure (ForInStep.yield r)) (fun b s₃ => ∃ h₃ t₃ B₃, s₃ = ⟨h₃, sG, sD, t₃, sO⟩ ∧ Kp B B₃ ∧
        Sx B₃ (compEnvC scope cl D env).locals h₃ [x] [some v] ((it, S (i + 1)) :: (acc, isL ys) :: (nw ++ [(env.locals, isO oL)])) ∧
        if b = true then wpAny (model prog w) A (eval elt (compEnvC scope cl D env)) (fun y s₄ => ∃ h₄ t₄ B₄, s₄ = ⟨h₄, sG, sD, t₄, sO⟩ ∧ Kp B₃ B₄ ∧
          Sx B₄ (compEnvC scope cl D env).locals h₄ [x] [some v] ((it, S (i + 1)) :: (acc, isL ys) :: (nw ++ [(env.locals, isO oL)])) ∧ J (i + 1) B₄ (ys ++ [y])) E' s₃
        else J (i + 1) B₃ ys) E' ⟨h, sG, sD, t, sO⟩)
    (fin : ∀ D acc oL B ys o h t, sH.get? env.locals = some oL → J n B ys → Kp g B → Sx B D h [x] [o] ((acc, isL ys) :: (nw ++ [(env.locals, isO oL)])) → RR (.ref acc) D (.ok .next) ⟨h, sG, sD, t, sO⟩) :
    wpAny (model prog w) A (newList []) (fun acc s₃ => wpAny (model prog w) A (newFunctionEnv scope env.globals cl [] env.qual none .none (some env)) (fun cenv s₄ =>
      codeAny (model prog w) A (.compStart (.ListComp elt [⟨.Name x px, iter, ifs, 0⟩] scope pos) 0 (.ref it) acc { cenv with scope := relabel scope env }) (RR acc cenv.locals) s₄) E s₃) E ⟨sH, sG, sD, sT, sO⟩ := by
  have hkind : scope.kind = .function := by
    simp only [scOk, Bool.and_eq_true, List.all_eq_true, beq_iff_eq] at hsc
    exact hsc.1.1.1
  refine wpAny_newObj_type ?_
  have F₁ : Sx g env.locals (sH.push { cls := .type "list", dict := none, data := .seq ([] : List Value).toArray }) ns vs ((sH.objs.size, isL []) :: (it, S 0) :: nw) := F.push _ ⟨0, rfl⟩ rfl
  have k₁ : Kp sH (sH.push { cls := .type "list", dict := none, data := .seq ([] : List Value).toArray }) := Kp.push _
  generalize sH.push { cls := .type "list", dict := none, data := .seq ([] : List Value).toArray } = h₁ at F₁ k₁ ⊢
  generalize sH.objs.size = acc at F₁ ⊢
  refine wpAny_newFunctionEnv hcell (by intro y hy; simp at hy) (fun h₂ hns hsb => ?_) hkind
  try dsimp only at hns hsb ⊢
  obtain ⟨oL, eL, F₂⟩ := F₁.inner (cns := [x]) rfl hns hsb
  have e0 : sH.get? env.locals = some oL := by
    obtain ⟨o, es, ep, e, r⟩ := F.loc
    rw [k₁ _ _ e] at eL; rw [e]; exact eL
  have F₃ : Sx g (compEnvC scope cl h₁.objs.size env).locals h₂ [x] [none] ((it, S 0) :: (acc, isL []) :: ([] ++ (nw ++ [(env.locals, isO oL)]))) := by
    refine ⟨F₂.loc, F₂.keep, F₂.noL, fun p hp => F₂.news p ?_, ?_⟩
    · simp only [List.nil_append, List.cons_append, List.mem_cons] at hp ⊢
      rcases hp with h | h | h
      · exact .inr (.inl h)
      · exact .inl h
      · exact .inr (.inr h)
    · have nd := F₂.nd
      simp only [List.nil_append, List.cons_append, List.map_cons] at nd ⊢
      exact (List.Perm.swap _ _ _).nodup_iff.mp nd
  have loop : codeAny (model prog w) A (.compLoop (.ListComp elt [⟨.Name x px, iter, ifs, 0⟩] scope pos) 0 (.ref it) (.ref acc) (compEnvC scope cl h₁.objs.size env)) (RR (.ref acc) h₁.objs.size) ⟨h₂, sG, sD, sT + ([] : List (Str × Value)).length, sO⟩ :=
    comp_loop (sH := h₂) (sG := sG) (sD := sD) (sT := sT + ([] : List (Str × Value)).length) (sO := sO) G (fun o => [o]) (fun _ => []) J none hn hh okg F₃ h0 (binds_local (C.comp hsc _)) (fun _ => rfl)
      (fun i B ys v h t E' hi hJ hv hB F => step _ acc oL i B ys v h t E' hi hJ hv hB (C.comp hsc _) F) (fun B ys o h t hJ hB F => fin _ acc oL B ys o h t e0 hJ hB F)
  refine codeAny_compStart_list loop (G.self (i := 0) ?_ loop)
  exact (F₃.news (it, S 0) List.mem_cons_self).1
end

theorem Sx.dropSame {g h h' : Heap} {L D : Addr} {ns : List Str} {vs : List (Option Value)} {P : Obj → Prop} {nw : Nw} (F : Sx g L h ns vs ((D, P) :: nw)) (hs : Heap.SameBut D h h') : Sx g L h' ns vs nw := by
  have m := F.news (D, P) List.mem_cons_self
  have F' := F.drop
  have k₁ : KpB D h h' := KpB.of_same hs
  refine ⟨ns_kp F'.loc (fun o e => k₁ _ o (Ne.symm m.2.1) e), k₁.kp F'.keep m.2.2, F'.noL, fun p hp => ?_, F'.nd⟩
  obtain ⟨⟨o, e, r⟩, q⟩ := F'.news p hp
  refine ⟨⟨o, k₁ _ _ (fun z => ?_) e, r⟩, q⟩
  have nd := F.nd
  rw [List.map_cons] at nd
  refine (List.nodup_cons.mp nd).1 ?_
  show D ∈ _
  rw [← z]; exact List.mem_map_of_mem (f := fun x : Addr × (Obj → Prop) => x.1) hp
theorem nd_front {l : List Addr} {a L : Addr} (h : (a :: (l ++ [L])).Nodup) : (a :: l).Nodup ∧ ∀ b ∈ a :: l, b ≠ L := by
  have h' : ((a :: l) ++ [L]).Nodup := h
  have := List.nodup_append.mp h'
  exact ⟨this.1, fun b hb => this.2.2 b hb L List.mem_cons_self⟩
section
variable {prog : Program} {w : World} {A : Around} {E : Value → Shared → Prop} {s : Shared} {env : Env} {g : Heap} {ns gs : List Str} {vs : List (Option Value)} {nw : Nw}
theorem post_none {sG : Array GenState} {sD : Drawn} {sO : OsState} {n : Nat} {J : Nat → Heap → List Value → Prop} {Q : Value → Shared → Prop} {pre : Nw} {h₀ : Heap} {D acc : Addr} {oL : Obj} {B : Heap} {ys : List Value} {cns : List Str} {cvs : List (Option Value)} {xs : Nw} {h : Heap} {t : Nat}
    (F₀ : Sx g env.locals h₀ ns vs pre) (eL : h₀.get? env.locals = some oL) (F : Sx B D h cns cvs ((acc, isL ys) :: (xs ++ (nw ++ [(env.locals, isO oL)]))))
    (hq : ∀ h' t', Sx B env.locals h' ns vs ((acc, isL ys) :: nw) → Q (.ref acc) ⟨h', sG, sD, t', sO⟩) :
    compPost (model prog w) A E none Q (.ref acc) D (.ok .next) ⟨h, sG, sD, t, sO⟩ := by
  refine ⟨_, F.loc, fun h' hs => hq h' t ?_⟩
  have nd := F.nd
  have nd' : (((acc, isL ys) :: (nw ++ [(env.locals, isO oL)])).map (·.1)).Nodup := by
    refine List.Nodup.sublist (List.Sublist.map _ ?_) nd
    exact List.Sublist.cons_cons _ (List.sublist_append_right _ _)
  rw [List.map_cons, List.map_append] at nd'
  have nf := nd_front nd'
  refine F₀.outer (keep := (acc, isL ys) :: nw) eL F hs (by simp) (fun p hp => ?_) (fun p hp => ?_) nf.1
  · rcases List.mem_cons.mp hp with rfl | hp
    · exact List.mem_cons_self
    · simp [hp]
  · refine nf.2 p.1 ?_
    rcases List.mem_cons.mp hp with rfl | hp
    · exact List.mem_cons_self
    · exact List.mem_cons_of_mem _ (List.mem_map_of_mem (f := fun x : Addr × (Obj → Prop) => x.1) hp)
theorem post_some {sG : Array GenState} {sD : Drawn} {sO : OsState} {y : Str} {py : Pos} {vs' : List (Option Value)} {Q : Shared → Prop} {pre : Nw} {h₀ : Heap} {D acc : Addr} {oL : Obj} {B : Heap} {ys : List Value} {cns : List Str} {cvs : List (Option Value)} {xs : Nw} {h : Heap} {t : Nat}
    (C : En env ns gs) (F₀ : Sx g env.locals h₀ ns vs pre) (eL : h₀.get? env.locals = some oL) (F : Sx B D h cns cvs ((acc, isL ys) :: (xs ++ (nw ++ [(env.locals, isO oL)])))) (P : Put ns vs y (.ref acc) vs')
    (hq : ∀ h' t', Sx B env.locals h' ns vs' ((acc, isL ys) :: nw) → Q ⟨h', sG, sD, t', sO⟩) :
    compPost (model prog w) A E (some (assign (.Name y py) env)) (fun _ s' => Q s') (.ref acc) D (.ok .next) ⟨h, sG, sD, t, sO⟩ := by
  have nd := F.nd
  have nd' : (((acc, isL ys) :: (nw ++ [(env.locals, isO oL)])).map (·.1)).Nodup := by
    refine List.Nodup.sublist (List.Sublist.map _ ?_) nd
    exact List.Sublist.cons_cons _ (List.sublist_append_right _ _)
  rw [List.map_cons, List.map_append] at nd'
  have nf := nd_front nd'
  have F' : Sx B env.locals h ns vs ((acc, isL ys) :: nw) := by
    refine F₀.outer (keep := (acc, isL ys) :: nw) eL F (.refl ..) (by simp) (fun p hp => ?_) (fun p hp => ?_) nf.1
    · rcases List.mem_cons.mp hp with rfl | hp
      · exact List.mem_cons_self
      · simp [hp]
    · refine nf.2 p.1 ?_
      rcases List.mem_cons.mp hp with rfl | hp
      · exact List.mem_cons_self
      · exact List.mem_cons_of_mem _ (List.mem_map_of_mem (f := fun x : Addr × (Obj → Prop) => x.1) hp)
  have inF : ∀ p ∈ (acc, isL ys) :: nw, p ∈ (acc, isL ys) :: (xs ++ (nw ++ [(env.locals, isO oL)])) := fun p hp => by
    rcases List.mem_cons.mp hp with rfl | hp
    · exact List.mem_cons_self
    · simp [hp]
  have hLD : D ≠ env.locals := Ne.symm (F.news (env.locals, isO oL) (by simp)).2.1
  obtain ⟨oD, es, ep, eD, rD⟩ := F.loc
  have F'' : Sx B env.locals h ns vs ((D, isO oD) :: (acc, isL ys) :: nw) := by
    refine ⟨F'.loc, F'.keep, F'.noL, fun p hp => ?_, ?_⟩
    · rcases List.mem_cons.mp hp with rfl | hp
      · exact ⟨⟨oD, eD, rfl⟩, hLD, F.noL⟩
      · exact F'.news p hp
    · rw [List.map_cons]
      refine List.nodup_cons.mpr ⟨fun hm => ?_, F'.nd⟩
      obtain ⟨p, hp, e⟩ := List.mem_map.mp hm
      exact (F.news p (inF p hp)).2.1 e
  show wpAny _ A (assign (.Name y py) env (.ref acc)) _ _ _
  refine wpAny_assign_Name (st F'' C (fun h₂ t₂ F₂ => ?_) P)
  obtain ⟨⟨o, e, r⟩, _⟩ := F₂.news _ List.mem_cons_self
  rw [show o = oD from r] at e
  exact ⟨_, ⟨oD, es, ep, e, rD⟩, fun h' hs => hq h' _ (F₂.dropSame hs)⟩

theorem comp_corec {sH : Heap} {sG : Array GenState} {sD : Drawn} {sT : Nat} {sO : OsState} {n : Nat} {S : Nat → Obj → Prop} {val : Nat → Value → Prop} {ok : Heap → Prop} {it : Addr} {elt iter : PySem.Expr} {x : Str} {px : Pos} {ifs : List PySem.Expr} {scope : Scope} {cl : List (Str × Addr)} {pos : Pos} {cgs : List Str}
    {RR : Value → Addr → Result → Shared → Prop}
    (G : Gen prog w n S val ok) (J : Nat → Heap → List Value → Prop) (hn : n ≤ 1000) (hh : A.handled = none) (C : En env ns gs) (hsc : scOk scope [] cgs = true)
    (hx : scope.names.lookup x = some .cell) (hd : (x == ("__debug__" : Str)) = false) (hcf : ∀ k, cellsFrom k scope.names cl = (x, k) :: cl) (hpc : ∀ h, pushCells h scope.names = h.push { cls := .type "cell", data := .cell none })
    (okg : ∀ h, Kp g h → ok h) (F : Sx g env.locals sH ns vs ((it, S 0) :: nw)) (h0 : J 0 g [])
    (step : ∀ D c acc oL i B ys v h t E', i < n → J i B ys → val i v → Kp g B → En (compEnvC scope ((x, c) :: cl) D env) [] cgs → Ce (compEnvC scope ((x, c) :: cl) D env) x c →
      Sx B (compEnvC scope ((x, c) :: cl) D env).locals h [] [] ((it, S (i + 1)) :: (acc, isL ys) :: (c, isC (some v)) :: (nw ++ [(env.locals, isO oL)])) →
      wpAny (model prog w) A (forIn ifs true fun e r => if r = true then do let ok ← isTrue e (compEnvC scope ((x, c) :: cl) D env) (eval e (compEnvC scope ((x, c) :: cl) D env)); pure (ForInStep.yield ok) else pure (ForInStep.yield r)) (fun b s₃ => ∃ h₃ t₃ B₃, s₃ = ⟨h₃, sG, sD, t₃, sO⟩ ∧ Kp B B₃ ∧
        Sx B₃ (compEnvC scope ((x, c) :: cl) D env).locals h₃ [] [] ((it, S (i + 1)) :: (acc, isL ys) :: (c, isC (some v)) :: (nw ++ [(env.locals, isO oL)])) ∧
        if b = true then wpAny (model prog w) A (eval elt (compEnvC scope ((x, c) :: cl) D env)) (fun y s₄ => ∃ h₄ t₄ B₄, s₄ = ⟨h₄, sG, sD, t₄, sO⟩ ∧ Kp B₃ B₄ ∧
          Sx B₄ (compEnvC scope ((x, c) :: cl) D env).locals h₄ [] [] ((it, S (i + 1)) :: (acc, isL ys) :: (c, isC (some v)) :: (nw ++ [(env.locals, isO oL)])) ∧ J (i + 1) B₄ (ys ++ [y])) E' s₃
        else J (i + 1) B₃ ys) E' ⟨h, sG, sD, t, sO⟩)
    (fin : ∀ D c acc oL B ys o h t, sH.get? env.locals = some oL → J n B ys → Kp g B → Sx B D h [] [] ((acc, isL ys) :: ([(c, isC o)] ++ (nw ++ [(env.locals, isO oL)]))) → RR (.ref acc) D (.ok .next) ⟨h, sG, sD, t, sO⟩) :
    wpAny (model prog w) A (newList []) (fun acc s₃ => wpAny (model prog w) A (newFunctionEnv scope env.globals cl [] env.qual none .none (some env)) (fun cenv s₄ =>
      codeAny (model prog w) A (.compStart (.ListComp elt [⟨.Name x px, iter, ifs, 0⟩] scope pos) 0 (.ref it) acc { cenv with scope := relabel scope env }) (RR acc cenv.locals) s₄) E s₃) E ⟨sH, sG, sD, sT, sO⟩ := by
  have hkind : scope.kind = .function := by
    simp only [scOk, Bool.and_eq_true, List.all_eq_true, beq_iff_eq] at hsc
    exact hsc.1.1.1
  refine wpAny_newObj_type ?_
  have F₁ : Sx g env.locals (sH.push { cls := .type "list", dict := none, data := .seq ([] : List Value).toArray }) ns vs ((sH.objs.size, isL []) :: (it, S 0) :: nw) := F.push _ ⟨0, rfl⟩ rfl
  have k₁ : Kp sH (sH.push { cls := .type "list", dict := none, data := .seq ([] : List Value).toArray }) := Kp.push _
  generalize sH.push { cls := .type "list", dict := none, data := .seq ([] : List Value).toArray } = h₁ at F₁ k₁ ⊢
  generalize sH.objs.size = acc at F₁ ⊢
  simp only [newFunctionEnv, Option.isSome_some, if_true]
  refine wpAny_bind (wpAny_alloc ?_)
  refine wpAny_bind (wpAny_layCells _ (fun name kind cells => by cases hkc : kind == NameKind.cell <;> simp) _ _ _ _ ?_)
  rw [hcf, hpc]
  rw [List.forIn_nil]
  refine wpAny_bind (wpAny_pure (wpAny_pure ?_))
  try dsimp only
  obtain ⟨oL, eL, F₂⟩ := F₁.inner (cns := []) (h' := h₁.push { cls := .type "dict", data := .dict #[] }) (cd := { cls := .type "dict", data := .dict #[] }) rfl (Heap.Ns.new h₁ (.type "dict")) (.refl ..)
  have F₂' := F₂.push { cls := .type "cell", data := .cell none } (P := isC none) rfl rfl
  have e0 : sH.get? env.locals = some oL := by
    obtain ⟨o, es, ep, e, r⟩ := F.loc
    rw [k₁ _ _ e] at eL; rw [e]; exact eL
  generalize (h₁.push { cls := .type "dict", data := .dict #[] }).objs.size = c at F₂' ⊢
  generalize ((h₁.push { cls := .type "dict", data := .dict #[] }).push { cls := .type "cell", data := .cell none }) = h₂ at F₂' ⊢
  have K : Ce (compEnvC scope ((x, c) :: cl) h₁.objs.size env) x c := ⟨hkind, look_relabel (by decide) hx, hd, by simp [compEnvC]⟩
  have F₃ : Sx g (compEnvC scope ((x, c) :: cl) h₁.objs.size env).locals h₂ [] [] ((it, S 0) :: (acc, isL []) :: ([(c, isC none)] ++ (nw ++ [(env.locals, isO oL)]))) := by
    refine ⟨F₂'.loc, F₂'.keep, F₂'.noL, fun p hp => F₂'.news p ?_, ?_⟩
    · simp only [List.nil_append, List.cons_append, List.mem_cons] at hp ⊢
      rcases hp with h | h | h | h
      · exact .inr (.inr (.inl h))
      · exact .inr (.inl h)
      · exact .inl h
      · exact .inr (.inr (.inr h))
    · have nd := F₂'.nd
      simp only [List.nil_append, List.cons_append, List.map_cons] at nd ⊢
      refine (List.Perm.nodup_iff ?_).mp nd
      refine (List.Perm.swap _ _ _).trans ?_
      refine (List.Perm.cons _ (List.Perm.swap _ _ _)).trans ?_
      exact List.Perm.swap _ _ _
  have loop : codeAny (model prog w) A (.compLoop (.ListComp elt [⟨.Name x px, iter, ifs, 0⟩] scope pos) 0 (.ref it) (.ref acc) (compEnvC scope ((x, c) :: cl) h₁.objs.size env)) (RR (.ref acc) h₁.objs.size) ⟨h₂, sG, sD, sT, sO⟩ :=
    comp_loop (sH := h₂) (sG := sG) (sD := sD) (sT := sT) (sO := sO) G (fun _ => []) (fun o => [(c, isC o)]) J none hn hh okg F₃ h0 (binds_cell K) (fun _ => rfl)
      (fun i B ys v h t E' hi hJ hv hB F => step _ c acc oL i B ys v h t E' hi hJ hv hB (C.comp hsc _) K F) (fun B ys o h t hJ hB F => fin _ c acc oL B ys o h t e0 hJ hB F)
  refine codeAny_compStart_list loop (G.self (i := 0) ?_ loop)
  exact (F₃.news (it, S 0) List.mem_cons_self).1
end

theorem beq_int (x y : Int) : (x == y) = decide (x = y) := by
  by_cases h : x = y
  · subst h; simp
  · rw [decide_eq_false h]; exact beq_eq_false_iff_ne.mpr h
noncomputable def lexlt (x i y j : Int) : Bool := decide (x < y) || (decide (x = y) && decide (i < j))
section
variable {prog : Program} {w : World} {A : Around} {E : Value → Shared → Prop} {s : Shared} {g : Heap}
theorem tup_lt_tree {a b : Addr} {x y i j : Int} {t u t' u' : Tok} {P : Fin → Shared → Prop} (ha : s.heap.get? a = some (to [.int x t, .int i u])) (hb : s.heap.get? b = some (to [.int y t', .int j u']))
    (h : P (.done (.ret (.bool (lexlt x i y j)))) s) : wpAny (model prog w) A (Builtin.«tuple.__lt__» ⟨[.ref a, .ref b], []⟩) P E s := by
  show wpAny _ _ (isInstance (.ref b) (.type "tuple") >>= _) _ _ s
  refine wpAny_bind (wpAny_isInstance ⟨_, hb, rfl⟩ isSubtype_tuple_tuple ?_)
  simp only [Bool.not_true, Bool.false_eq_true, if_false]
  refine wpAny_bind (wpAny_tupleItemsOf ha rfl ?_)
  refine wpAny_bind (wpAny_tupleItemsOf hb rfl ?_)
  refine wpAny_bind ?_
  show wpAny _ _ (forIn [(Value.int x t, Value.int y t'), (Value.int i u, Value.int j u')] _ _) _ _ _
  rw [List.forIn_cons]
  refine wpAny_bind (wpAny_bind (wpAny_eqBool_int ?_))
  rw [beq_int]
  by_cases hxy : x = y
  · rw [decide_eq_true hxy]
    simp only [Bool.not_true, Bool.false_eq_true, if_false]
    refine wpAny_pure ?_
    try dsimp only
    rw [List.forIn_cons]
    refine wpAny_bind (wpAny_bind (wpAny_eqBool_int ?_))
    rw [beq_int]
    by_cases hij : i = j
    · rw [decide_eq_true hij]
      simp only [Bool.not_true, Bool.false_eq_true, if_false]
      refine wpAny_pure ?_
      try dsimp only
      rw [List.forIn_nil]
      refine wpAny_pure (wpAny_pure ?_)
      have e : lexlt x i y j = false := by subst hxy hij; simp [lexlt]
      rw [e] at h
      exact h
    · rw [decide_eq_false hij]
      simp only [Bool.not_false, if_true]
      refine wpAny_bind (wpAny_rule (wpAny_bind ?_))
      refine lt_int (s := s) ?_
      have e : lexlt x i y j = decide (i < j) := by subst hxy; simp [lexlt]
      rw [e] at h
      exact wpAny_bind (wpAny_pure (wpAny_pure (wpAny_pure (wpAny_pure h))))
  · rw [decide_eq_false hxy]
    simp only [Bool.not_false, if_true]
    refine wpAny_bind (wpAny_rule (wpAny_bind ?_))
    refine lt_int (s := s) ?_
    have e : lexlt x i y j = decide (x < y) := by simp [lexlt, hxy]
    rw [e] at h
    exact wpAny_bind (wpAny_pure (wpAny_pure (wpAny_pure (wpAny_pure h))))
theorem tup_lt {a b : Addr} {x y i j : Int} {t u t' u' : Tok} (ha : g.get? a = some (to [.int x t, .int i u])) (hb : g.get? b = some (to [.int y t', .int j u'])) :
    Lk (model prog w) g (compareOp .Lt (.ref a) (.ref b)) (.bool (lexlt x i y j)) := fun A Q E s hu k q =>
  wpAny_richCompare_same_room (op := .Lt) ⟨_, k _ _ ha, rfl⟩ ⟨_, k _ _ hb, rfl⟩ F.slot_tuple_lt
    (wpAny_call_entry F.slot_tuple_lt ⟨_, k _ _ ha, rfl⟩ F.entry_tuple_lt (tup_lt_tree (k _ _ ha) (k _ _ hb) ⟨_, rfl, (fun e => nomatch e), q⟩) (F.args_tuple_lt_2 _ _)) (Nat.lt_trans hu (by decide))
end

/-! a def with cells -/
theorem enterc {prog : Program} {w : World} {A : Around} {R : Result → Shared → Prop} {s : Shared} {f : Addr} {args : List Value} {body : List Stmt}
    (ps gs ns cn : List Str) (vs : List (Option Value)) (cs : Addr → List (Str × Addr)) (cv : List (Option Value)) (hroom : A.depth < 900) (hf : IsFn s.heap f) (hlim : s.heap.NoLimit)
    (hbody : (fdAt f).body = .stmts body) (hbind : bindArgs (fdAt f) ⟨args, []⟩ = pure (ps.zip args)) (hclo : (fdAt f).closure = [])
    (hkind : ∀ x ∈ ps.zip args, (fdAt f).scope.names.lookup x.1 = some .local ∨ ((fdAt f).scope.names.lookup x.1 = some .cell ∧ ((cellsFrom (s.heap.objs.size + 1) (fdAt f).scope.names []).lookup x.1).isSome = true))
    (ok : scOk (fdAt f).scope ns gs = true) (okc : (cn.all fun x => (fdAt f).scope.names.lookup x == some .cell && !(x == ("__debug__" : Str))) = true)
    (glb : ((fdAt f).globals = mainGlobals ∧ (fdAt f).builtins = builtinsNs) ∧ (fdAt f).scope.isCoroutine = false ∧ (fdAt f).scope.isGenerator = false)
    (hcs : ∀ L, cellsFrom (L + 1) (fdAt f).scope.names [] = cs L) (hnm : ∀ L, (cs L).map (·.1) = cn) (hdup : cn.Nodup)
    (hvs : ∀ y, bindL (fun x => (fdAt f).scope.names.lookup x) (ps.zip args) (fun _ => none) y = lk ns vs y)
    (hcv : cn.map (bindC (fun x => (fdAt f).scope.names.lookup x) (ps.zip args) (fun _ => none)) = cv)
    (h : ∀ env AA h₀ t, (∀ P : Around → Prop, P (A.deeper env) → P AA) → En env ns gs → (∀ x ∈ cn, ∀ c, env.cells.lookup x = some c → Ce env x c) → env.cells = cs env.locals →
      Sx s.heap env.locals h₀ ns vs (((cs env.locals).zip cv).map fun p => (p.1.2, isC p.2)) →
      wpAny (model prog w) AA (execs body env) (fun fl s' => R (.ok (.ret (match fl with | .ret v => v | _ => .none))) s') (fun _ _ => False) { s with heap := h₀, toks := t }) :
    codeAny (model prog w) A (.call (.ref f) ⟨args, []⟩) R s := by
  have E0 : En (callEnvC (fdAt f) s.heap.objs.size f) ns gs := En.of ok glb.1.1 glb.1.2
  refine codeAny_call_cells (fd := fdAt f) (Nat.lt_trans hroom (by decide)) hf.1 rfl hlim hf.2 hbody hbind hclo hkind (fun s₁ X => ?_) glb.2.1 glb.2.2 E0.kind
  have hm : bindL (callEnvC (fdAt f) s.heap.objs.size f).kindOf (ps.zip args) (fun _ => none) = lk ns vs := funext hvs
  rw [hm] at X
  obtain ⟨h₀, t, hs⟩ := X.toInCall.same
  have hc : (callEnvC (fdAt f) s.heap.objs.size f).cells = cs s.heap.objs.size := hcs _
  subst hs
  have fresh : ∀ b, s.heap.objs.size ≤ b → s.heap.get? b = none := fun b hb => by
    cases q : s.heap.get? b with
    | none => rfl
    | some o' => exact absurd (Heap.lt_size q) (Nat.not_lt.mpr hb)
  refine wpAny_mono (h (callEnvC (fdAt f) s.heap.objs.size f) _ h₀ t (fun _ x => x) E0 (fun x hx c e => ?_) hc ?_) (fun _ _ y => y) fun _ _ y => y.elim
  · have := List.all_eq_true.mp okc x hx
    simp only [Bool.and_eq_true, beq_iff_eq, Bool.not_eq_true'] at this
    exact ⟨E0.kind, this.1, this.2, e⟩
  · rw [hc] at X
    have hz : ((cs s.heap.objs.size).zip cv).map (fun p => (p.1.2, isC p.2)) = (cs s.heap.objs.size).map fun p => (p.2, isC (bindC (fun x => (fdAt f).scope.names.lookup x) (ps.zip args) (fun _ => none) p.1)) := by
      rw [← hcv, ← hnm s.heap.objs.size, List.map_map, List.zip_map_right, List.map_map]
      generalize cs s.heap.objs.size = l
      induction l with
      | nil => rfl
      | cons a r ih => simp only [List.zip_cons_cons, List.map_cons]; rw [ih]; rfl
    have dupc : (cs s.heap.objs.size).map (·.1) |>.Nodup := by rw [hnm]; exact hdup
    have look : ∀ (l : List (Str × Addr)), (l.map (·.1)).Nodup → ∀ p ∈ l, l.lookup p.1 = some p.2 := by
      intro l
      induction l with
      | nil => intro _ p hp; cases hp
      | cons a r ih =>
        intro nd p hp
        rw [List.map_cons] at nd
        have nd' := List.nodup_cons.mp nd
        obtain ⟨an, ac⟩ := a
        rcases List.mem_cons.mp hp with rfl | hp
        · simp
        · have ne : (p.1 == an) = false := beq_eq_false_iff_ne.mpr fun q => nd'.1 (by
            show an ∈ _
            rw [← q]; exact List.mem_map_of_mem hp)
          rw [List.lookup_cons, ne]; exact ih nd'.2 p hp
    refine ⟨X.toInCall.ns, X.toInCall.keep, fresh _ (Nat.le_refl _), fun p hp => ?_, ?_⟩
    · rw [show (callEnvC (fdAt f) s.heap.objs.size f).locals = s.heap.objs.size from rfl, hz] at hp
      obtain ⟨q, hq, rfl⟩ := List.mem_map.mp hp
      have hlt := X.above q.1 q.2 hq
      exact ⟨X.cell q.1 q.2 (look _ dupc q hq), Ne.symm (Nat.ne_of_lt hlt), fresh _ (Nat.le_of_lt hlt)⟩
    · rw [show (callEnvC (fdAt f) s.heap.objs.size f).locals = s.heap.objs.size from rfl, hz, List.map_map]
      have := X.apart
      unfold List.Nodup
      rw [List.pairwise_map]
      exact this

/-! heaps of at most five ranks -/
noncomputable def picks : Nat → List Nat → List (List Nat)
  | 0, _ => [[]]
  | n + 1, pool => [] :: pool.flatMap fun x => (picks n (pool.erase x)).map (x :: ·)
theorem picks_mem {n : Nat} {pool l : List Nat} (hn : l.length ≤ n) (nd : l.Nodup) (hp : ∀ x ∈ l, x ∈ pool) : l ∈ picks n pool := by
  induction n generalizing pool l with
  | zero =>
    have : l = [] := List.length_eq_zero_iff.mp (Nat.le_zero.mp hn)
    subst this; exact List.mem_singleton.mpr rfl
  | succ n ih =>
    cases l with
    | nil => exact List.mem_cons_self
    | cons x r =>
      refine List.mem_cons_of_mem _ (List.mem_flatMap.mpr ⟨x, hp x List.mem_cons_self, List.mem_map.mpr ⟨r, ?_, rfl⟩⟩)
      have nd' := List.nodup_cons.mp nd
      refine ih (by simpa using hn) nd'.2 fun y hy => ?_
      exact (List.mem_erase_of_ne (fun e : y = x => nd'.1 (e ▸ hy))).mpr (hp y (List.mem_cons_of_mem _ hy))
noncomputable def natLt (a b : Nat) : Bool := decide (a < b)
noncomputable def heapOk (r : List Nat) : Bool := (List.range r.length).all fun k => k == 0 || natLt (r.getD ((k - 1) / 2) 0) (r.getD k 0)
noncomputable def pool5 : List Nat := [0, 1, 2, 3, 4]
noncomputable def okPush (r : List Nat) : Bool := !heapOk r || pool5.all fun x => r.contains x || (heapOk (hpush natLt x r) && (hpush natLt x r).isPerm (x :: r))
noncomputable def okPop (r : List Nat) : Bool := match r.getLast? with
  | none => true
  | some last => !heapOk r || (r.all (fun y => decide (hpopV r.dropLast last ≤ y)) && heapOk (hpopL natLt r.dropLast last) && (hpopV r.dropLast last :: hpopL natLt r.dropLast last).isPerm r)
noncomputable def okFy (r : List Nat) : Bool := heapOk (hfy natLt (r.length / 2) r) && (hfy natLt (r.length / 2) r).isPerm r
theorem all_push : (picks 5 pool5).all okPush = true := by decide +kernel
theorem all_pop : (picks 5 pool5).all okPop = true := by decide +kernel
theorem all_fy : (picks 5 pool5).all okFy = true := by decide +kernel

section
variable {α β : Type} (f : α → β) (lt : β → β → Bool)
theorem sd_map (start : Nat) (new : α) (l : List α) (pos : Nat) : sd lt start (f new) (l.map f) pos = (sd (fun a b => lt (f a) (f b)) start new l pos).map f := by
  induction pos using Nat.strongRecOn generalizing l with
  | ind pos ih =>
    rw [sd, sd]
    by_cases h : start < pos
    · rw [dif_pos h, dif_pos h, List.getElem?_map]
      cases e : l[(pos - 1) / 2]? with
      | none => rfl
      | some par =>
        simp only [Option.map_some]
        by_cases q : lt (f new) (f par) = true
        · rw [if_pos q, if_pos q, ← List.map_set]; exact ih _ (by omega) _
        · rw [if_neg q, if_neg q, ← List.map_set]
    · rw [dif_neg h, dif_neg h, ← List.map_set]
theorem pick_map (l : List α) (c : Nat) (h : c < l.length) (h' : c < (l.map f).length) : pick lt (l.map f) c h' = pick (fun a b => lt (f a) (f b)) l c h := by
  unfold pick
  by_cases h2 : c + 1 < l.length
  · rw [dif_pos (by simpa using h2), dif_pos h2]; simp
  · rw [dif_neg (by simpa using h2), dif_neg h2]
theorem suL_map : ∀ (k : Nat) (l : List α) (pos : Nat), l.length - pos = k → suL lt (l.map f) pos = ((suL (fun a b => lt (f a) (f b)) l pos).1.map f, (suL (fun a b => lt (f a) (f b)) l pos).2) := by
  intro k
  induction k using Nat.strongRecOn with
  | ind k ih =>
    intro l pos hk
    rw [suL, suL]
    by_cases h : 2 * pos + 1 < l.length
    · have h' : 2 * pos + 1 < (l.map f).length := by simpa using h
      rw [dif_pos h', dif_pos h]
      have hp := pick_map f lt l (2 * pos + 1) h h'
      have hq := pick_lt (fun a b => lt (f a) (f b)) l (2 * pos + 1) h
      have hr := le_pick (fun a b => lt (f a) (f b)) l (2 * pos + 1) h
      have e : (l.map f).set pos ((l.map f)[pick lt (l.map f) (2 * pos + 1) h']'(pick_lt ..)) = (l.set pos (l[pick (fun a b => lt (f a) (f b)) l (2 * pos + 1) h]'hq)).map f := by
        rw [List.map_set]
        congr 1
        rw [List.getElem_map]
        congr 1
        simp only [hp]
      rw [e, hp]
      exact ih _ (by rw [List.length_set]; omega) _ _ rfl
    · rw [dif_neg (by simpa using h), dif_neg h]
theorem sup_map (new : α) (l : List α) (pos : Nat) : sup lt (f new) (l.map f) pos = (sup (fun a b => lt (f a) (f b)) new l pos).map f := by
  unfold sup
  rw [suL_map f lt _ l pos rfl]
  dsimp only
  rw [← List.map_set]
  exact sd_map f lt _ _ _ _
theorem hpush_map (x : α) (l : List α) : hpush lt (f x) (l.map f) = (hpush (fun a b => lt (f a) (f b)) x l).map f := by
  unfold hpush
  rw [← sd_map, List.map_append, List.length_map]; rfl
theorem hpopL_map (pre : List α) (last : α) : hpopL lt (pre.map f) (f last) = (hpopL (fun a b => lt (f a) (f b)) pre last).map f := by
  cases pre with
  | nil => rfl
  | cons x r => exact sup_map f lt last (last :: r) 0
theorem hpopV_map (pre : List α) (last : α) : hpopV (pre.map f) (f last) = f (hpopV pre last) := by
  cases pre <;> rfl
theorem hfy_map (n : Nat) (l : List α) : hfy lt n (l.map f) = (hfy (fun a b => lt (f a) (f b)) n l).map f := by
  induction n generalizing l with
  | zero => rfl
  | succ n ih =>
    rw [hfy, hfy, List.getElem?_map]
    cases e : l[n]? with
    | none => exact ih l
    | some x =>
      simp only [Option.map_some]
      rw [sup_map]; exact ih _
end
/-! the same, of places below five that a rank orders -/
structure Rank (ρ : Nat → Nat) : Prop where
  lt : ∀ i, i < 5 → ρ i < 5
  inj : ∀ i j, i < 5 → j < 5 → ρ i = ρ j → i = j
noncomputable abbrev by_ (ρ : Nat → Nat) : Nat → Nat → Bool := fun a b => natLt (ρ a) (ρ b)
structure Hp (ρ : Nat → Nat) (l : List Nat) : Prop where
  nd : l.Nodup
  lt : ∀ i ∈ l, i < 5
  ok : heapOk (l.map ρ) = true
theorem pool_mem {x : Nat} (h : x < 5) : x ∈ pool5 := by
  have : x = 0 ∨ x = 1 ∨ x = 2 ∨ x = 3 ∨ x = 4 := by omega
  rcases this with rfl | rfl | rfl | rfl | rfl <;> decide
theorem len5 {l : List Nat} (nd : l.Nodup) (h : ∀ i ∈ l, i < 5) : l.length ≤ 5 := by
  have : l.length ≤ pool5.length := List.Nodup.length_le_of_subset nd fun i hi => pool_mem (h i hi)
  simpa [pool5] using this
theorem ranks_nd {ρ : Nat → Nat} (R : Rank ρ) {l : List Nat} (nd : l.Nodup) (h : ∀ i ∈ l, i < 5) : (l.map ρ).Nodup := by
  induction l with
  | nil => exact List.nodup_nil
  | cons x r ih =>
    have nd' := List.nodup_cons.mp nd
    refine List.nodup_cons.mpr ⟨fun hm => ?_, ih nd'.2 fun i hi => h i (List.mem_cons_of_mem _ hi)⟩
    obtain ⟨y, hy, e⟩ := List.mem_map.mp hm
    have := R.inj _ _ (h y (List.mem_cons_of_mem _ hy)) (h x List.mem_cons_self) e
    exact nd'.1 (this ▸ hy)
theorem ranks_in {ρ : Nat → Nat} (R : Rank ρ) {l : List Nat} (nd : l.Nodup) (h : ∀ i ∈ l, i < 5) : l.map ρ ∈ picks 5 pool5 :=
  picks_mem (by rw [List.length_map]; exact len5 nd h) (ranks_nd R nd h) fun x hx => by
    obtain ⟨y, hy, rfl⟩ := List.mem_map.mp hx
    exact pool_mem (R.lt y (h y hy))
theorem perm_back {ρ : Nat → Nat} (R : Rank ρ) {a b : List Nat} (ha : ∀ i ∈ a, i < 5) (hb : ∀ i ∈ b, i < 5) (h : (a.map ρ).Perm (b.map ρ)) : a.Perm b := by
  have hτ : ∀ l : List Nat, (∀ i ∈ l, i < 5) → (l.map ρ).map (fun r => ((List.range 5).find? fun i => ρ i == r).getD 0) = l := by
    intro l hl
    rw [List.map_map]
    conv => rhs; rw [← List.map_id l]
    refine List.map_congr_left fun i hi => ?_
    have hi5 := hl i hi
    show ((List.range 5).find? fun j => ρ j == ρ i).getD 0 = i
    cases e : (List.range 5).find? fun j => ρ j == ρ i with
    | none =>
      have := List.find?_eq_none.mp e i (List.mem_range.mpr hi5)
      simp at this
    | some j =>
      have h1 := List.find?_some e
      have h2 := List.mem_range.mp (List.mem_of_find?_eq_some e)
      exact R.inj j i h2 hi5 (by simpa using h1)
  have := h.map (fun r => ((List.range 5).find? fun i => ρ i == r).getD 0)
  rwa [hτ a ha, hτ b hb] at this
theorem perm_lt {a b : List Nat} (h : a.Perm b) (hb : ∀ i ∈ b, i < 5) : ∀ i ∈ a, i < 5 := fun i hi => hb i (h.mem_iff.mp hi)
theorem hpush_ok {ρ : Nat → Nat} (R : Rank ρ) {l : List Nat} {x : Nat} (H : Hp ρ l) (hx : x < 5) (hn : x ∉ l) : Hp ρ (hpush (by_ ρ) x l) ∧ (hpush (by_ ρ) x l).Perm (x :: l) := by
  have h := List.all_eq_true.mp all_push _ (ranks_in R H.nd H.lt)
  simp only [okPush, H.ok, Bool.not_true, Bool.false_or, List.all_eq_true, Bool.or_eq_true, Bool.and_eq_true] at h
  have h := (h _ (pool_mem (R.lt x hx))).resolve_left (fun q => by
    rw [List.contains_iff_mem] at q
    obtain ⟨y, hy, e⟩ := List.mem_map.mp q
    have := R.inj _ _ (H.lt y hy) hx e
    exact hn (this ▸ hy))
  rw [hpush_map ρ natLt x l] at h
  have hlt : ∀ i ∈ hpush (by_ ρ) x l, i < 5 := fun i hi => by
    rcases sd_mem _ _ _ _ _ i hi with e | e
    · exact e ▸ hx
    · rcases List.mem_append.mp e with e | e
      · exact H.lt i e
      · exact (List.mem_singleton.mp e) ▸ hx
  have hp : (hpush (by_ ρ) x l).Perm (x :: l) := perm_back R hlt (fun i hi => by
    rcases List.mem_cons.mp hi with e | e
    · exact e ▸ hx
    · exact H.lt i e) (List.isPerm_iff.mp h.2)
  exact ⟨⟨hp.nodup_iff.mpr (List.nodup_cons.mpr ⟨hn, H.nd⟩), hlt, h.1⟩, hp⟩
theorem hpop_ok {ρ : Nat → Nat} (R : Rank ρ) {pre : List Nat} {last : Nat} (H : Hp ρ (pre ++ [last])) :
    Hp ρ (hpopL (by_ ρ) pre last) ∧ (hpopV pre last :: hpopL (by_ ρ) pre last).Perm (pre ++ [last]) ∧ ∀ y ∈ pre ++ [last], ρ (hpopV pre last) ≤ ρ y := by
  have h := List.all_eq_true.mp all_pop _ (ranks_in R H.nd H.lt)
  have ok := H.ok
  rw [List.map_append, List.map_cons, List.map_nil] at h ok
  simp only [okPop, List.getLast?_concat, List.dropLast_concat, ok, Bool.not_true, Bool.false_or, List.all_eq_true, Bool.and_eq_true, decide_eq_true_eq] at h
  rw [hpopL_map ρ natLt pre last, hpopV_map ρ pre last] at h
  have hm : ∀ i ∈ hpopL (by_ ρ) pre last, i ∈ pre ++ [last] := fun i hi => by
    cases pre with
    | nil => cases hi
    | cons a r =>
      rcases sup_mem _ _ _ _ i hi with e | e
      · simp [e]
      · rcases List.mem_cons.mp e with e | e
        · simp [e]
        · simp [e]
  have hv : hpopV pre last ∈ pre ++ [last] := by cases pre <;> simp [hpopV]
  have hp : (hpopV pre last :: hpopL (by_ ρ) pre last).Perm (pre ++ [last]) := perm_back R (fun i hi => by
    rcases List.mem_cons.mp hi with e | e
    · exact e ▸ H.lt _ hv
    · exact H.lt i (hm i e)) H.lt (by
      have := List.isPerm_iff.mp h.2
      simpa using this)
  have nd := hp.nodup_iff.mpr H.nd
  refine ⟨⟨(List.nodup_cons.mp nd).2, fun i hi => H.lt i (hm i hi), h.1.2⟩, hp, fun y hy => ?_⟩
  refine h.1.1 (ρ y) ?_
  rcases List.mem_append.mp hy with e | e
  · exact List.mem_append.mpr (.inl (List.mem_map_of_mem e))
  · exact List.mem_append.mpr (.inr (by rw [List.mem_singleton.mp e]; exact List.mem_cons_self))
theorem hfy_mem {α : Type} (lt : α → α → Bool) (n : Nat) (l : List α) : ∀ x ∈ hfy lt n l, x ∈ l := by
  induction n generalizing l with
  | zero => exact fun x hx => hx
  | succ n ih =>
    intro x hx
    rw [hfy] at hx
    cases e : l[n]? with
    | none => rw [e] at hx; exact ih _ x hx
    | some y =>
      rw [e] at hx
      rcases sup_mem _ _ _ _ x (ih _ x hx) with q | q
      · exact q ▸ List.mem_of_getElem? e
      · exact q
theorem hfy_ok {ρ : Nat → Nat} (R : Rank ρ) {l : List Nat} (nd : l.Nodup) (hl : ∀ i ∈ l, i < 5) : Hp ρ (hfy (by_ ρ) (l.length / 2) l) ∧ (hfy (by_ ρ) (l.length / 2) l).Perm l := by
  have h := List.all_eq_true.mp all_fy _ (ranks_in R nd hl)
  simp only [okFy, Bool.and_eq_true, List.length_map] at h
  rw [hfy_map ρ natLt (l.length / 2) l] at h
  have hlt : ∀ i ∈ hfy (by_ ρ) (l.length / 2) l, i < 5 := fun i hi => hl i (hfy_mem _ _ _ i hi)
  have hp : (hfy (by_ ρ) (l.length / 2) l).Perm l := perm_back R hlt hl (List.isPerm_iff.mp h.2)
  exact ⟨⟨hp.nodup_iff.mpr nd, hlt, h.1⟩, hp⟩

/-! the greedy order, without any program -/
theorem filt_out {l : List Nat} (nd : l.Nodup) {x : Nat} (hx : x ∈ l) (p : Nat → Bool) : (l.filter p).length = (l.filter fun i => p i && !(i == x)).length + (if p x = true then 1 else 0) := by
  induction l with
  | nil => cases hx
  | cons a r ih =>
    have nd' := List.nodup_cons.mp nd
    by_cases e : a = x
    · subst e
      have e1 : r.filter (fun i => p i && !(i == a)) = r.filter p := List.filter_congr fun i hi => by
        have : (i == a) = false := beq_eq_false_iff_ne.mpr fun q => nd'.1 (q ▸ hi)
        rw [this]; simp
      simp only [List.filter_cons, beq_self_eq_true, Bool.not_true, Bool.and_false, Bool.false_eq_true, if_false, e1]
      cases p a <;> simp
    · have hx' : x ∈ r := (List.mem_cons.mp hx).resolve_left (Ne.symm e)
      have ih := ih nd'.2 hx'
      have : (a == x) = false := beq_eq_false_iff_ne.mpr e
      simp only [List.filter_cons, this, Bool.not_false, Bool.and_true]
      cases p a
      · simpa using ih
      · simp only [if_true, List.length_cons, ih]; omega
noncomputable def cnt (m : Nat → Nat → Bool) (T : List Nat) (k : Nat) : Nat := ((List.range 5).filter fun i => !T.contains i && m i k).length
theorem cnt_snoc {m : Nat → Nat → Bool} {T : List Nat} {x : Nat} (hx : x < 5) (hn : x ∉ T) (k : Nat) : cnt m T k = cnt m (T ++ [x]) k + (if m x k = true then 1 else 0) := by
  unfold cnt
  rw [filt_out List.nodup_range (List.mem_range.mpr hx) fun i => !T.contains i && m i k]
  have e1 : (!T.contains x && m x k) = m x k := by
    have : T.contains x = false := by rw [← Bool.not_eq_true, List.contains_iff_mem]; exact hn
    rw [this]; rfl
  rw [e1]
  congr 2
  refine List.filter_congr fun i _ => ?_
  have : (T ++ [x]).contains i = (T.contains i || (i == x)) := by
    rw [Bool.eq_iff_iff]
    simp
  rw [this]
  cases T.contains i <;> cases m i k <;> cases (i == x) <;> rfl
structure Greedy (m : Nat → Nat → Bool) (le : Nat → Nat → Prop) (T : List Nat) : Prop where
  nd : T.Nodup
  lt : ∀ i ∈ T, i < 5
  free : ∀ p x r, T = p ++ x :: r → cnt m p x = 0
  least : ∀ p x r, T = p ++ x :: r → ∀ k, k < 5 → k ∉ p → cnt m p k = 0 → le x k
structure Inv (m : Nat → Nat → Bool) (ρ : Nat → Nat) (T l : List Nat) : Prop where
  G : Greedy m (fun x k => ρ x ≤ ρ k) T
  H : Hp ρ l
  mem : ∀ k, k < 5 → (k ∈ l ↔ k ∉ T ∧ cnt m T k = 0)
  old : ∀ k ∈ T, cnt m T k = 0
noncomputable def mix (m : Nat → Nat → Bool) (T : List Nat) (x i k : Nat) : Nat := if k < i then cnt m (T ++ [x]) k else cnt m T k
structure Mid (m : Nat → Nat → Bool) (ρ : Nat → Nat) (T : List Nat) (x i : Nat) (l : List Nat) : Prop where
  G : Greedy m (fun x k => ρ x ≤ ρ k) (T ++ [x])
  hx : x < 5
  hn : x ∉ T
  c0 : cnt m T x = 0
  H : Hp ρ l
  mem : ∀ k, k < 5 → (k ∈ l ↔ k ∉ T ++ [x] ∧ mix m T x i k = 0)
  old : ∀ k ∈ T, cnt m T k = 0
section
variable {m : Nat → Nat → Bool} {ρ : Nat → Nat} {T l : List Nat} {x i : Nat}
theorem Inv.start (R : Rank ρ) : Inv m ρ [] (hfy (by_ ρ) (((List.range 5).filter fun k => cnt m [] k == 0).length / 2) ((List.range 5).filter fun k => cnt m [] k == 0)) := by
  have h := hfy_ok R (l := (List.range 5).filter fun k => cnt m [] k == 0) (List.nodup_range.filter _) (fun i hi => List.mem_range.mp (List.mem_filter.mp hi).1)
  refine ⟨⟨List.nodup_nil, by simp, fun p x r e => by simp at e, fun p x r e => by simp at e⟩, h.1, fun k hk => ?_, by simp⟩
  rw [h.2.mem_iff, List.mem_filter]
  simp [hk]
theorem Inv.pop (R : Rank ρ) {pre : List Nat} {last : Nat} (I : Inv m ρ T (pre ++ [last])) : Mid m ρ T (hpopV pre last) 0 (hpopL (by_ ρ) pre last) := by
  obtain ⟨H, P, least⟩ := hpop_ok R I.H
  generalize hx : hpopV pre last = x at *
  have hxm : x ∈ pre ++ [last] := P.mem_iff.mp List.mem_cons_self
  have hx5 := I.H.lt x hxm
  obtain ⟨hxT, hc⟩ := (I.mem x hx5).mp hxm
  have nd := P.nodup_iff.mpr I.H.nd
  have nd' := List.nodup_cons.mp nd
  have split : ∀ p y r, T ++ [x] = p ++ y :: r → (∃ r', T = p ++ y :: r') ∨ (p = T ∧ y = x) := by
    intro p y r e
    rcases List.eq_nil_or_concat r with rfl | ⟨r', z, rfl⟩
    · right
      have e' : T ++ [x] = p ++ [y] := e
      have := List.append_inj' e' rfl
      exact ⟨this.1.symm, (List.cons.inj this.2).1.symm⟩
    · left
      refine ⟨r', ?_⟩
      have e' : T ++ [x] = (p ++ y :: r') ++ [z] := by rw [e]; simp
      exact (List.append_inj' e' rfl).1
  refine ⟨⟨?_, ?_, ?_, ?_⟩, hx5, hxT, hc, H, fun k hk => ?_, I.old⟩
  · refine List.nodup_append.mpr ⟨I.G.nd, by simp, fun a ha b hb => ?_⟩
    rw [List.mem_singleton.mp hb]; exact fun e => hxT (e ▸ ha)
  · intro i hi
    rcases List.mem_append.mp hi with h | h
    · exact I.G.lt i h
    · exact (List.mem_singleton.mp h) ▸ hx5
  · intro p y r e
    rcases split p y r e with ⟨r', e'⟩ | ⟨rfl, rfl⟩
    · exact I.G.free p y r' e'
    · exact hc
  · intro p y r e k hk hkp hck
    rcases split p y r e with ⟨r', e'⟩ | ⟨rfl, rfl⟩
    · exact I.G.least p y r' e' k hk hkp hck
    · exact least k ((I.mem k hk).mpr ⟨hkp, hck⟩)
  · have hmem : k ∈ hpopL (by_ ρ) pre last ↔ k ∈ pre ++ [last] ∧ k ≠ x := by
      rw [← P.mem_iff, List.mem_cons]
      constructor
      · intro h; exact ⟨.inr h, fun e => nd'.1 (e ▸ h)⟩
      · rintro ⟨h | h, hne⟩
        · exact absurd h hne
        · exact h
    rw [hmem, I.mem k hk]
    unfold mix
    rw [if_neg (by omega)]
    simp only [List.mem_append, List.mem_singleton, not_or]
    constructor
    · rintro ⟨⟨a, b⟩, c⟩; exact ⟨⟨a, c⟩, b⟩
    · rintro ⟨⟨a, c⟩, b⟩; exact ⟨⟨a, b⟩, c⟩
theorem Mid.skip (M : Mid m ρ T x i l) (h : m x i = false) : Mid m ρ T x (i + 1) l := by
  have e : ∀ k, mix m T x (i + 1) k = mix m T x i k := by
    intro k
    unfold mix
    have c := cnt_snoc M.hx M.hn (m := m) k
    by_cases hk : k = i
    · subst hk
      rw [if_pos (by omega), if_neg (by omega), c, h]; simp
    · by_cases h1 : k < i
      · rw [if_pos (by omega), if_pos h1]
      · rw [if_neg (by omega), if_neg h1]
  exact ⟨M.G, M.hx, M.hn, M.c0, M.H, fun k hk => by rw [e]; exact M.mem k hk, M.old⟩
theorem mix_eq (hx : x < 5) (hn : x ∉ T) (h : m x i = true) : cnt m T i = cnt m (T ++ [x]) i + 1 := by
  have c := cnt_snoc hx hn (m := m) i
  rw [h] at c; simpa using c
theorem mix_next (k : Nat) (hk : k ≠ i) : mix m T x (i + 1) k = mix m T x i k := by
  unfold mix
  by_cases h1 : k < i
  · rw [if_pos (by omega), if_pos h1]
  · rw [if_neg (by omega), if_neg h1]
theorem Mid.dec (M : Mid m ρ T x i l) (h : m x i = true) (hc : cnt m (T ++ [x]) i ≠ 0) : Mid m ρ T x (i + 1) l := by
  refine ⟨M.G, M.hx, M.hn, M.c0, M.H, fun k hk => ?_, M.old⟩
  by_cases e : k = i
  · subst e
    rw [M.mem k hk]
    unfold mix
    rw [if_neg (by omega), if_pos (by omega), mix_eq M.hx M.hn h]
    constructor
    · rintro ⟨_, b⟩; omega
    · rintro ⟨_, b⟩; exact absurd b hc
  · rw [mix_next k e]; exact M.mem k hk
theorem Mid.push (R : Rank ρ) (M : Mid m ρ T x i l) (hi : i < 5) (h : m x i = true) (hc : cnt m (T ++ [x]) i = 0) : Mid m ρ T x (i + 1) (hpush (by_ ρ) i l) := by
  have c1 := mix_eq M.hx M.hn h
  have hil : i ∉ l := fun q => by
    have := ((M.mem i hi).mp q).2
    unfold mix at this
    rw [if_neg (by omega)] at this; omega
  have hiT : i ∉ T ++ [x] := fun q => by
    rcases List.mem_append.mp q with q | q
    · have := M.old i q; omega
    · rw [List.mem_singleton.mp q] at c1
      have := M.c0; omega
  obtain ⟨H, P⟩ := hpush_ok R M.H hi hil
  refine ⟨M.G, M.hx, M.hn, M.c0, H, fun k hk => ?_, M.old⟩
  rw [P.mem_iff, List.mem_cons]
  by_cases e : k = i
  · subst e
    unfold mix
    rw [if_pos (by omega)]
    exact ⟨fun _ => ⟨hiT, hc⟩, fun _ => .inl rfl⟩
  · rw [mix_next k e, ← M.mem k hk]
    exact ⟨fun q => q.resolve_left e, .inr⟩
theorem Mid.done (M : Mid m ρ T x 5 l) : Inv m ρ (T ++ [x]) l := by
  have e : ∀ k, k < 5 → mix m T x 5 k = cnt m (T ++ [x]) k := fun k hk => by unfold mix; rw [if_pos hk]
  refine ⟨M.G, M.H, fun k hk => by rw [M.mem k hk, e k hk], fun k hk => ?_⟩
  have mono : cnt m (T ++ [x]) k ≤ cnt m T k := by rw [cnt_snoc M.hx M.hn (m := m) k]; omega
  rcases List.mem_append.mp hk with q | q
  · have := M.old k q; omega
  · rw [List.mem_singleton.mp q] at mono ⊢
    have := M.c0; omega
theorem Inv.len (I : Inv m ρ T l) : T.length ≤ 5 := len5 I.G.nd I.G.lt
theorem Mid.len (M : Mid m ρ T x i l) : T.length < 5 := by
  have := len5 M.G.nd M.G.lt
  rw [List.length_append] at this
  simp at this; omega
end
theorem filt_lt {l : List Nat} {p q : Nat → Bool} (h : ∀ x ∈ l, p x = true → q x = true) {y : Nat} (hy : y ∈ l) (hq : q y = true) (hp : p y = false) : (l.filter p).length < (l.filter q).length := by
  induction l with
  | nil => cases hy
  | cons a r ih =>
    have h' : ∀ x ∈ r, p x = true → q x = true := fun x hx => h x (List.mem_cons_of_mem _ hx)
    have le : (r.filter p).length ≤ (r.filter q).length := by
      clear ih hy
      induction r with
      | nil => simp
      | cons b t ih =>
        have ih := ih (fun x hx => h x (by rcases List.mem_cons.mp hx with e | e <;> simp [e])) fun x hx => h' x (List.mem_cons_of_mem _ hx)
        simp only [List.filter_cons]
        cases pb : p b
        · simp only [Bool.false_eq_true, if_false]
          split
          · simp; omega
          · exact ih
        · rw [h' b List.mem_cons_self pb]; simp; omega
    rcases List.mem_cons.mp hy with rfl | hy
    · simp only [List.filter_cons, hq, hp, if_true, Bool.false_eq_true, if_false, List.length_cons]; omega
    · have ih := ih h' hy
      simp only [List.filter_cons]
      cases pa : p a
      · simp only [Bool.false_eq_true, if_false]
        split
        · simp; omega
        · exact ih
      · rw [h a List.mem_cons_self pa]; simp; omega
noncomputable def rk (K : Nat → Int) (i : Nat) : Nat := ((List.range 5).filter fun j => lexlt (K j) j (K i) i).length
theorem lex_iff {x i y j : Int} : lexlt x i y j = true ↔ x < y ∨ (x = y ∧ i < j) := by simp [lexlt]
theorem rk_lt {K : Nat → Int} {i j : Nat} (hi : i < 5) (h : lexlt (K i) i (K j) j = true) : rk K i < rk K j := by
  refine filt_lt (y := i) (fun x hx hp => ?_) (List.mem_range.mpr hi) h ?_
  · rw [lex_iff] at *; omega
  · rw [← Bool.not_eq_true, lex_iff]; omega
theorem rk_is {K : Nat → Int} {i j : Nat} (hi : i < 5) (hj : j < 5) : lexlt (K i) i (K j) j = natLt (rk K i) (rk K j) := by
  unfold natLt
  by_cases h : lexlt (K i) i (K j) j = true
  · rw [h, decide_eq_true (rk_lt hi h)]
  · rw [Bool.not_eq_true] at h
    rw [h]
    symm
    rw [decide_eq_false_iff_not]
    by_cases e : i = j
    · subst e; omega
    · have : lexlt (K j) j (K i) i = true := by
        rw [← Bool.not_eq_true, lex_iff] at h
        rw [lex_iff]; omega
      have := rk_lt hj this; omega
theorem rk_rank (K : Nat → Int) : Rank (rk K) := by
  refine ⟨fun i hi => ?_, fun i j hi hj e => ?_⟩
  · have : rk K i < ((List.range 5).filter fun _ => true).length := filt_lt (y := i) (fun _ _ _ => rfl) (List.mem_range.mpr hi) rfl (by rw [← Bool.not_eq_true, lex_iff]; omega)
    rwa [show ((List.range 5).filter fun _ => true).length = 5 by decide] at this
  · by_cases q : i = j
    · exact q
    · by_cases h : lexlt (K i) i (K j) j = true
      · have := rk_lt hi h; omega
      · have : lexlt (K j) j (K i) i = true := by rw [lex_iff] at *; omega
        have := rk_lt hj this; omega

/-! tables of truths, lists of keys -/
noncomputable def bools (m : Nat → Nat → Bool) (i : Nat) : List Value := (List.range 5).map fun k => .bool (m i k)
noncomputable def Mat (h : Heap) (a : Addr) (m : Nat → Nat → Bool) : Prop := ∃ rs : List Value, Hl h a rs ∧ rs.length = 5 ∧ ∀ i, i < 5 → ∃ r, rs[i]? = some (.ref r) ∧ Hl h r (bools m i)
theorem Mat.kp {h h' : Heap} {a : Addr} {m : Nat → Nat → Bool} (M : Mat h a m) (k : Kp h h') : Mat h' a m :=
  by obtain ⟨rs, hl, n, hr⟩ := M; exact ⟨rs, hl.kp k, n, fun i hi => by obtain ⟨r, e, l⟩ := hr i hi; exact ⟨r, e, l.kp k⟩⟩
theorem map5 {α : Type} (f : Nat → α) {k : Nat} (hk : k < 5) : ((List.range 5).map f)[k]? = some (f k) := by simp [hk]
structure KeysAt (h : Heap) (a : Addr) (K : Nat → Int) (f : Nat → Value) : Prop where
  list : Hl h a ((List.range 5).map f)
  tup : ∀ k, k < 5 → ∃ r t u, f k = .ref r ∧ h.get? r = some (to [.int (K k) t, .int k u])
theorem KeysAt.kp {h h' : Heap} {a : Addr} {K : Nat → Int} {f : Nat → Value} (M : KeysAt h a K f) (k : Kp h h') : KeysAt h' a K f :=
  ⟨M.list.kp k, fun i hi => by obtain ⟨r, t, u, e, o⟩ := M.tup i hi; exact ⟨r, t, u, e, k _ _ o⟩⟩
theorem KeysAt.inj {h : Heap} {a : Addr} {K : Nat → Int} {f : Nat → Value} (M : KeysAt h a K f) {i j : Nat} (hi : i < 5) (hj : j < 5) (e : f i = f j) : i = j := by
  obtain ⟨r, t, u, e1, o1⟩ := M.tup i hi
  obtain ⟨r', t', u', e2, o2⟩ := M.tup j hj
  rw [e1, e2] at e
  cases e
  rw [o1] at o2
  have := Option.some.inj o2
  injection this with _ _ d _
  injection d with d1 _
  have := congrArg Array.toList d1
  simp at this
  omega
open Classical in
noncomputable def rkV (f : Nat → Value) (ρ : Nat → Nat) (v : Value) : Nat := if h : ∃ i, i < 5 ∧ f i = v then ρ (choose h) else 0
theorem KeysAt.rkV {h : Heap} {a : Addr} {K : Nat → Int} {f : Nat → Value} (M : KeysAt h a K f) {i : Nat} (hi : i < 5) (ρ : Nat → Nat) : rkV f ρ (f i) = ρ i := by
  unfold Mine.rkV
  have hx : ∃ j, j < 5 ∧ f j = f i := ⟨i, hi, rfl⟩
  rw [dif_pos hx]
  have := Classical.choose_spec hx
  rw [M.inj this.1 hi this.2]
noncomputable abbrev ltV (f : Nat → Value) (ρ : Nat → Nat) (a b : Value) : Bool := natLt (rkV f ρ a) (rkV f ρ b)
theorem KeysAt.cmp {prog : Program} {w : World} {h : Heap} {a : Addr} {K : Nat → Int} {f : Nat → Value} (M : KeysAt h a K f) {i j : Nat} (hi : i < 5) (hj : j < 5) :
    Lk (model prog w) h (compareOp .Lt (f i) (f j)) (.bool (ltV f (rk K) (f i) (f j))) := by
  obtain ⟨r, t, u, e1, o1⟩ := M.tup i hi
  obtain ⟨r', t', u', e2, o2⟩ := M.tup j hj
  unfold ltV
  rw [M.rkV hi, M.rkV hj, ← rk_is hi hj, e1, e2]
  exact tup_lt o1 o2
noncomputable def closL (env : Env) : List (Str × NameKind) → List (Str × Addr) → Option (List (Str × Addr))
  | [], acc => some acc
  | (n, k) :: r, acc => if k == .free then (match env.cells.lookup n with | some c => closL env r ((n, c) :: acc) | none => none) else closL env r acc
theorem clos_go {env : Env} : ∀ (names : List (Str × NameKind)) (acc cl : List (Str × Addr)), closL env names acc = some cl →
    (forIn names acc (fun (x : Str × NameKind) (cs : List (Str × Addr)) => if x.2 == .free then (do let c ← cellOf env x.1; pure (ForInStep.yield ((x.1, c) :: cs))) else pure (ForInStep.yield cs)) : Sem (List (Str × Addr))) = pure cl
  | [], acc, cl, h => by
    rw [closL] at h; cases h
    rw [List.forIn_nil]
  | (n, k) :: r, acc, cl, h => by
    rw [closL] at h
    rw [List.forIn_cons]
    by_cases q : (k == NameKind.free) = true
    · rw [if_pos q] at h ⊢
      cases e : env.cells.lookup n with
      | none => rw [e] at h; cases h
      | some c =>
        rw [e] at h
        have : cellOf env n = pure c := by unfold cellOf; rw [e]
        rw [this]
        exact clos_go r _ cl h
    · rw [if_neg q] at h ⊢
      exact clos_go r _ cl h
theorem clos_of {env : Env} {scope : Scope} {cl : List (Str × Addr)} (h : closL env scope.names [] = some cl) : closureFor scope env = pure cl := by
  have e := clos_go scope.names [] cl h
  unfold closureFor
  show (forIn scope.names [] _ >>= fun r => pure r) = _
  rw [show (forIn scope.names ([] : List (Str × Addr)) _ : Sem (List (Str × Addr))) = pure cl from e]
  rfl
section
variable {prog : Program} {w : World} {A : Around} {E : Value → Shared → Prop} {s : Shared} {g : Heap}
theorem no_tests {env : Env} {Q : Bool → Shared → Prop} (h : Q true s) :
    wpAny (model prog w) A (forIn ([] : List PySem.Expr) true fun c r => if r = true then do let ok ← isTrue c env (eval c env); pure (ForInStep.yield ok) else pure (ForInStep.yield r)) Q E s := wpAny_pure h
end

theorem val0 {i : Nat} {v : Value} (h : intAt 0 1 i v) : ∃ t, v = .int (i : Nat) t := by
  obtain ⟨t, e⟩ := h
  exact ⟨t, by rw [e]; congr 1; omega⟩
noncomputable def cntL (m : Nat → Nat → Bool) (k j : Nat) : Nat := ((List.range j).filter fun i => m i k).length
theorem cntL_succ (m : Nat → Nat → Bool) (k j : Nat) : cntL m k (j + 1) = cntL m k j + if m j k = true then 1 else 0 := by
  unfold cntL
  rw [List.range_succ, List.filter_append, List.length_append]
  cases e : m j k <;> simp [e]
theorem cntL_five (m : Nat → Nat → Bool) (k : Nat) : cntL m k 5 = cnt m [] k := by
  unfold cntL cnt
  congr 1
theorem cnt_le (m : Nat → Nat → Bool) (T : List Nat) (k : Nat) : cnt m T k ≤ 5 := Nat.le_trans (List.length_filter_le _ _) (by simp)
theorem cntL_le (m : Nat → Nat → Bool) (k j : Nat) : cntL m k j ≤ j := Nat.le_trans (List.length_filter_le _ _) (by simp)
theorem range_snoc {α : Type} (f : Nat → α) (i : Nat) : (List.range (i + 1)).map f = (List.range i).map f ++ [f i] := by rw [List.range_succ, List.map_append]; rfl
theorem Sx.fzl {g h : Heap} {L : Addr} {ns : List Str} {vs : List (Option Value)} {p : Addr × (Obj → Prop)} {nw : Nw} (F : Sx g L h ns vs (p :: nw)) :
    ∃ g', Kp g g' ∧ Sx g' L h ns vs [p] ∧ ∀ q ∈ nw, ∃ o, g'.get? q.1 = some o ∧ q.2 o := by
  have F1 := F.pick (nw' := [p]) (fun q hq => by rw [List.mem_singleton.mp hq]; exact List.mem_cons_self) (by simp)
  refine ⟨_, F1.kbase, F1.rebase, fun q hq => ?_⟩
  obtain ⟨⟨o, e, hp⟩, n, _⟩ := F.news q (List.mem_cons_of_mem _ hq)
  refine ⟨o, ?_, hp⟩
  rw [hides_get]
  · exact e
  · intro z
    rcases List.mem_cons.mp z with z | z
    · exact n z
    · have nd := F.nd
      rw [List.map_cons] at nd
      refine (List.nodup_cons.mp nd).1 ?_
      rw [List.map_cons, List.map_nil, List.mem_singleton] at z
      show p.1 ∈ _
      rw [← z]; exact List.mem_map_of_mem (f := fun x : Addr × (Obj → Prop) => x.1) hq
section
variable {env : Env} {ns gs : List Str}
theorem Ce.cmp {sc : Scope} {cl : List (Str × Addr)} {D : Addr} {cns cgs : List Str} {x : Str} {c : Addr} (K : Ce env x c) (C1 : En (compEnvC sc cl D env) cns cgs) (hx : sc.names.lookup x = some .free) (hl : cl.lookup x = some c) : Ce (compEnvC sc cl D env) x c :=
  K.comp D C1.kind hx hl
theorem swap_cell {elt : PySem.Expr} {gens : List Comprehension} {sc : Scope} {pos py : Pos} {y : Str} {c : Addr} {line : Nat} (K : Ce env y c) : swapsWith (.ListComp elt gens sc pos) (some (.Name y py)) line env = pure false := by
  unfold swapsWith
  simp only [K.cell]
  rw [show (some NameKind.cell == some NameKind.local) = false from rfl]
  simp
theorem swap_loc {elt : PySem.Expr} {gens : List Comprehension} {sc : Scope} {pos py : Pos} {y : Str} {line : Nat} (C : En env ns gs) (hy : y ∈ ns) (hl : (py.line == pos.line) = true) (hn : (sc.names.any fun (n, k) => n == y && (k == .local || k == .cell)) = false) :
    swapsWith (.ListComp elt gens sc pos) (some (.Name y py)) line env = pure true := by
  have e1 : env.blockKind = .function := by unfold Env.blockKind; rw [C.kind]; rfl
  show (pure (env.blockKind == .function && env.kindOf y == some .local && py.line == pos.line && !(sc.names.any fun (n, k) => n == y && (k == .local || k == .cell))) : Sem Bool) = pure true
  rw [e1, (C.loc y hy).1, hl, hn]
  rfl
end
section
variable {prog : Program} {w : World} {A : Around} {E : Value → Shared → Prop} {s : Shared} {g : Heap}
theorem post_none0 {sG : Array GenState} {sD : Drawn} {sO : OsState} {env : Env} {ns : List Str} {vs : List (Option Value)} {nw pre : Nw} {Q : Value → Shared → Prop} {h₀ : Heap} {D acc : Addr} {oL : Obj} {B : Heap} {ys : List Value} {cns : List Str} {cvs : List (Option Value)} {h : Heap} {t : Nat}
    (F₀ : Sx g env.locals h₀ ns vs pre) (eL : h₀.get? env.locals = some oL) (F : Sx B D h cns cvs ((acc, isL ys) :: (nw ++ [(env.locals, isO oL)])))
    (hq : ∀ h' t', Sx B env.locals h' ns vs ((acc, isL ys) :: nw) → Q (.ref acc) ⟨h', sG, sD, t', sO⟩) :
    compPost (model prog w) A E none Q (.ref acc) D (.ok .next) ⟨h, sG, sD, t, sO⟩ := post_none (n := 0) (J := fun _ _ _ => True) (xs := []) F₀ eL F hq
theorem post_some0 {sG : Array GenState} {sD : Drawn} {sO : OsState} {env : Env} {ns gs : List Str} {vs : List (Option Value)} {nw : Nw} {y : Str} {py : Pos} {vs' : List (Option Value)} {Q : Shared → Prop} {pre : Nw} {h₀ : Heap} {D acc : Addr} {oL : Obj} {B : Heap} {ys : List Value} {cns : List Str} {cvs : List (Option Value)} {h : Heap} {t : Nat}
    (C : En env ns gs) (F₀ : Sx g env.locals h₀ ns vs pre) (eL : h₀.get? env.locals = some oL) (F : Sx B D h cns cvs ((acc, isL ys) :: (nw ++ [(env.locals, isO oL)]))) (P : Put ns vs y (.ref acc) vs')
    (hq : ∀ h' t', Sx B env.locals h' ns vs' ((acc, isL ys) :: nw) → Q ⟨h', sG, sD, t', sO⟩) :
    compPost (model prog w) A E (some (assign (.Name y py) env)) (fun _ s' => Q s') (.ref acc) D (.ok .next) ⟨h, sG, sD, t, sO⟩ := post_some (xs := []) C F₀ eL F P hq
theorem rng5 {sH : Heap} {sG : Array GenState} {sD : Drawn} {sT : Nat} {sO : OsState} {L : Addr} {ns : List Str} {vs : List (Option Value)} {nw : Nw} {t : Tok} {Q : Value → Shared → Prop} (F : Sx g L sH ns vs nw)
    (h : ∀ it h' t', Sx g L h' ns vs ((it, isRg 0 1 5 0) :: nw) → Q (.ref it) ⟨h', sG, sD, t', sO⟩) : wpAny (model prog w) A (call (.type "range") [.int 5 t]) (fun x s₁ => wpAny (model prog w) A (pyIter x) Q E s₁) E ⟨sH, sG, sD, sT, sO⟩ := by
  refine crange1 (n := 5) F fun r h2 t2 F2 => ?_
  refine iter_range (a := 0) (b := 5) (n := 5) F2 List.mem_cons_self rfl (by decide) (by decide) (by decide) fun it h3 F3 => ?_
  refine h it h3 _ (F3.pick (fun p hp => ?_) ?_)
  · rcases List.mem_cons.mp hp with rfl | hp
    · exact List.mem_cons_self
    · exact List.mem_cons_of_mem _ (List.mem_cons_of_mem _ hp)
  · have nd := F3.nd
    rw [List.map_cons, List.map_cons] at nd
    rw [List.map_cons]
    have n1 := List.nodup_cons.mp nd
    exact List.nodup_cons.mpr ⟨fun q => n1.1 (List.mem_cons_of_mem _ q), (List.nodup_cons.mp n1.2).2⟩
theorem KeysAt.cmpm {h : Heap} {a : Addr} {K : Nat → Int} {f : Nat → Value} (M : KeysAt h a K f) {l : List Nat} (hl : ∀ i ∈ l, i < 5) : ∀ p ∈ l.map f, ∀ q ∈ l.map f, Lk (model prog w) h (compareOp .Lt p q) (.bool (ltV f (rk K) p q)) := fun p hp q hq => by
  obtain ⟨i, hi, rfl⟩ := List.mem_map.mp hp
  obtain ⟨j, hj, rfl⟩ := List.mem_map.mp hq
  exact M.cmp (hl i hi) (hl j hj)
theorem KeysAt.rank {h : Heap} {a : Addr} {K : Nat → Int} {f : Nat → Value} (M : KeysAt h a K f) : Rank fun i => Mine.rkV f (rk K) (f i) :=
  ⟨fun i hi => by rw [M.rkV hi]; exact (rk_rank K).lt i hi, fun i j hi hj e => by rw [M.rkV hi, M.rkV hj] at e; exact (rk_rank K).inj i j hi hj e⟩
theorem i_isub {sH : Heap} {sG : Array GenState} {sD : Drawn} {sT : Nat} {sO : OsState} {a b : Int} {t u : Tok} {Q : Value → Shared → Prop} (h : ∀ t u, Q (.int (a - b) t) ⟨sH, sG, sD, u, sO⟩) : wpAny (model prog w) A (inplaceOp .Sub (.int a t) (.int b u)) Q E ⟨sH, sG, sD, sT, sO⟩ := P.isub_int (h _ _)
theorem law_order {a kl : Addr} {m : Nat → Nat → Bool} {K : Nat → Int} {f : Nat → Value} (hA : Ar A 5) (G : Gk w s.heap) (M : Mat s.heap a m) (KS : KeysAt s.heap kl K f) :
    codeAny (model prog w) A (.call (.ref 148) ⟨[.ref a, .ref kl], []⟩) (Ends s fun v h => Kp s.heap h ∧ ∃ T t, v = .str (txt (T.map (97 + ·))) t ∧
      Greedy m (fun x k => lexlt (K k) k (K x) x = false) T ∧ ∀ k, k < 5 → k ∉ T → cnt m T k ≠ 0) s := by
  refine enterc ["ahead", "keys"] ["range", "heapify", "len", "heappop", "heappush"] ["k", "heap", "word", "here"] ["waits", "keys", "ahead"] [none, none, none, none]
    (fun L => [("waits", L + 3), ("keys", L + 2), ("ahead", L + 1)]) [none, some (.ref kl), some (.ref a)] hA.room (fn148 G) G.nolimit (by with_unfolding_all rfl) (by with_unfolding_all rfl) (by with_unfolding_all rfl)
    (fun x hx => ?_) (by decide +kernel) (by decide +kernel) (by decide +kernel) (fun L => by with_unfolding_all rfl) (fun L => rfl) (by decide) (fun y => ?_) (by with_unfolding_all rfl) (fun env AA h₀ t₀ hAA C KC hcell F => ?_)
  · rcases List.mem_cons.mp hx with rfl | hx
    · exact .inr ⟨by with_unfolding_all rfl, by with_unfolding_all rfl⟩
    · rcases List.mem_cons.mp hx with rfl | hx
      · exact .inr ⟨by with_unfolding_all rfl, by with_unfolding_all rfl⟩
      · cases hx
  · rw [show ([none, none, none, none] : List (Option Value)) = (["k", "heap", "word", "here"] : List Str).map fun _ => none from rfl, lk_none]
    with_unfolding_all rfl
  have hA' := hAA (fun a => Ar a _) (hA.deeper env)
  have Kw : Ce env "waits" (env.locals + 3) := KC "waits" (by simp) _ (by rw [hcell]; rfl)
  have Kk : Ce env "keys" (env.locals + 2) := KC "keys" (by simp) _ (by rw [hcell]; rfl)
  have Ka : Ce env "ahead" (env.locals + 1) := KC "ahead" (by simp) _ (by rw [hcell]; rfl)
  generalize env.locals + 3 = cw at Kw F
  generalize env.locals + 2 = ck at Kk F
  generalize env.locals + 1 = ca at Ka F
  refine opq fun QQ EE hQQ _ => ?_
  obtain ⟨g1, kg1, F1, fr⟩ := Sx.fzl F
  have hck := fr (ck, isC (some (.ref kl))) (by simp)
  have hca := fr (ca, isC (some (.ref a))) (by simp)
  try dsimp only at hck hca F1
  clear fr F KC
  have G1 := G.kp kg1
  have M1 := M.kp kg1
  have KS1 := KS.kp kg1
  obtain ⟨rs, hl, hn, hr⟩ := id M1
  refine wpAny_execs_cons <| wpAny_Assign_Name (hs := swap_cell Kw) <| lc_open (cl := [("ahead", ca)]) (clos_of (by simp [closL, Ka.addr])) rfl (by decide +kernel) ?_
  refine ctyp F1.keep C (g_range G1) <| args_cons <| k_int fun _ _ => args_nil ?_
  refine rng5 F1 fun it h3 t3 F3 => ?_
  refine comp_corec (RR := fun acc D => compPost (model prog w) _ _ none _ acc D) (cgs := ["len", "range"]) (gen_range prog w 0 1 5) (fun i B ys => IntsAre ys ((List.range i).map fun k => (cnt m [] k : Int))) (by decide) hA'.1 C (by decide +kernel) (by decide +kernel) (by decide) (fun _ => rfl) (fun _ => rfl)
    (fun _ _ => trivial) F3 IntsAre.nil ?_ ?_
  · intro D c acc oL i B ys v h t E' hi hJ hv hB C1 K1 F4
    obtain ⟨kv, rfl⟩ := val0 hv
    refine opq fun Q1 E1 hQ1 hE1 => ?_
    refine no_tests (hQ1 _ _ ⟨_, _, B, rfl, Kp.rf, F4, ?_⟩)
    rw [if_pos rfl]
    refine opq fun Q2 E2 hQ2 hE2 => ?_
    clear hQ1 hE1
    have Ka1 := Ka.cmp C1 (by decide +kernel) rfl
    have GB := G1.kp hB
    refine cblt F4.keep C1 (g_len GB) <| args_cons <| lc_open (cl := [("k", c), ("ahead", ca)]) (clos_of (by simp [closL, Ka1.addr, K1.addr])) rfl (by decide +kernel) ?_
    refine ctyp F4.keep C1 (g_range GB) <| args_cons <| k_int fun _ _ => args_nil ?_
    refine rng5 F4 fun it2 h5 t5 F5 => ?_
    refine comp_core (RR := fun acc D => compPost (model prog w) _ _ none _ acc D) (cgs := []) (gen_range prog w 0 1 5) (fun j B zs => zs.length = cntL m i j) (by decide) hA'.1 C1 (by decide +kernel) (by decide +kernel)
      (fun _ _ => trivial) F5 rfl ?_ ?_
    · intro D2 acc2 oL2 j B2 zs v2 h6 t6 E2 hj hJ2 hv2 hB2 C2 F6
      obtain ⟨kj, rfl⟩ := val0 hv2
      have Ka2 := Ka1.cmp C2 (by decide +kernel) rfl
      have K2 := K1.cmp C2 (by decide +kernel) rfl
      have kg6 := (hB.tr hB2).tr F6.keep
      obtain ⟨rj, erj, hrj⟩ := hr j hj
      refine opq fun Q3 E3 hQ3 hE3 => ?_
      refine wpAny_tests_one <| isTrue_plain <| Subscript_ <| Subscript_ <| ldk kg6 Ka2 hca <| ld F6 C2 (by with_reducible repeat (first | exact At.hd | apply At.tl)) <| itemn (hl.kp kg6) (by first | with_reducible assumption | with_reducible exact lt5 (by assumption) | omega) erj <| ldc F6 K2 (v := .int i kv) ?_ (by simp)
      refine itemn (hrj.kp kg6) (by first | with_reducible assumption | with_reducible exact lt5 (by assumption) | omega) (map5 _ hi) <| wpAny_truthy_bool ?_
      refine hQ3 _ _ ⟨_, _, B2, rfl, Kp.rf, F6, ?_⟩
      cases e : m j i with
      | false =>
        rw [if_neg (by decide), cntL_succ, e]; simpa using hJ2
      | true =>
        rw [if_pos rfl]
        refine ld F6 C2 (by with_reducible repeat (first | exact At.hd | apply At.tl)) ⟨_, _, B2, rfl, Kp.rf, F6, ?_⟩
        rw [cntL_succ, e, List.length_append, hJ2]; rfl
    · intro D2 acc2 oL2 B2 zs o h6 t6 eL hJ2 hB2 F6
      refine post_none0 F5 eL F6 fun h7 t7 F7 => ?_
      refine args_nil <| len_l F7.isl (by have := cntL_le m i 5; omega) fun kq _ => ?_
      refine hQ2 _ _ ⟨_, _, B2, rfl, hB2, F7.drop, ?_⟩
      rw [range_snoc, hJ2, cntL_five]
      exact hJ.append (IntsAre.cons _ _ IntsAre.nil)
  · intro D c acc oL B ys o h4 t4 eL hJ hB F4
    refine post_none (n := 0) (J := fun _ _ _ => True) (xs := [(c, isC o)]) F3 eL F4 fun h5 t5 F5 => ?_
    refine stc F5 Kw fun h6 F6 => ?_
    try dsimp only
    have F7 := F6.pick (nw' := [(acc, isL ys), (cw, isC (some (.ref acc)))]) (by simp) (by have := F6.nd; simpa using this)
    obtain ⟨g2, kg2, F8, fr⟩ := F7.fzl
    have hcw := fr (cw, isC (some (.ref acc))) (by simp)
    clear fr F6 F5 F4 F7
    replace hck : ∃ o, g2.get? ck = some o ∧ isC (some (.ref kl)) o := by obtain ⟨o, e, r⟩ := hck; exact ⟨o, (hB.tr kg2) _ _ e, r⟩
    replace hca : ∃ o, g2.get? ca = some o ∧ isC (some (.ref a)) o := by obtain ⟨o, e, r⟩ := hca; exact ⟨o, (hB.tr kg2) _ _ e, r⟩
    have kS : Kp s.heap g2 := (kg1.tr hB).tr kg2
    have G2 := G.kp kS
    have M2 := M.kp kS
    have KS2 := KS.kp kS
    clear G1 M1 KS1 hl hr hn
    obtain ⟨rs, hl, hn, hr⟩ := id M2
    refine wpAny_execs_cons <| lc_asg (cl := [("waits", cw), ("keys", ck)]) (swap_loc C (by simp) (by rfl) (by decide +kernel)) (clos_of (by simp [closL, Kw.addr, Kk.addr])) rfl (by decide +kernel) ?_
    refine ctyp F8.keep C (g_range G2) <| args_cons <| k_int fun _ _ => args_nil ?_
    refine rng5 F8 fun it2 h9 t9 F9 => ?_
    refine comp_core (RR := fun acc D => compPost (model prog w) _ _ (some _) _ acc D) (cgs := []) (gen_range prog w 0 1 5) (fun j B zs => zs = ((List.range j).filter fun k => cnt m [] k == 0).map f) (by decide) hA'.1 C (by decide +kernel) (by decide +kernel)
      (fun _ _ => trivial) F9 rfl ?_ ?_
    · intro D2 acc2 oL2 j B2 zs v2 h6 t6 E2 hj hJ2 hv2 hB2 C2 F6
      obtain ⟨kj, rfl⟩ := val0 hv2
      have Kw2 := Kw.cmp C2 (by decide +kernel) rfl
      have Kk2 := Kk.cmp C2 (by decide +kernel) rfl
      have kg6 := hB2.tr F6.keep
      obtain ⟨kx, ekx⟩ := ints_get hJ (map5 _ hj)
      refine opq fun Q3 E3 hQ3 hE3 => ?_
      refine wpAny_tests_one <| wpAny_isTrue_Compare1 <| Subscript_ <| ldk kg6 Kw2 hcw <| ld F6 C2 (by with_reducible repeat (first | exact At.hd | apply At.tl)) <| itemn (F6.isl (by simp)) (by first | with_reducible assumption | with_reducible exact lt5 (by assumption) | omega) ekx <| k_int fun _ _ => i_eq ?_
      refine hQ3 _ _ ⟨_, _, B2, rfl, Kp.rf, F6, ?_⟩
      have hfl : (List.range (j + 1)).filter (fun k => cnt m [] k == 0) = (List.range j).filter (fun k => cnt m [] k == 0) ++ if (cnt m [] j == 0) = true then [j] else [] := by
        rw [List.range_succ, List.filter_append]
        cases e : (cnt m [] j == 0) <;> simp [e]
      by_cases e : cnt m [] j = 0
      · rw [if_pos (by simp [e])]
        refine Subscript_ <| ldk kg6 Kk2 hck <| ld F6 C2 (by with_reducible repeat (first | exact At.hd | apply At.tl)) <| itemn (KS2.list.kp kg6) (by first | with_reducible assumption | with_reducible exact lt5 (by assumption) | omega) (map5 _ hj) ⟨_, _, B2, rfl, Kp.rf, F6, ?_⟩
        rw [hfl, hJ2]; simp [e]
      · rw [if_neg (by simp; omega), hfl, hJ2]; simp [e]
    · intro D2 acc2 oL2 B2 zs o h6 t6 eL hJ2 hB2 F6
      refine post_some0 C F9 eL F6 (by walk_at "put") fun h7 t7 F7 => ?_
      clear F6 F9 F8
      have kS2 : Kp s.heap B2 := kS.tr hB2
      replace hck : ∃ o, B2.get? ck = some o ∧ isC (some (.ref kl)) o := by obtain ⟨o, e, r⟩ := hck; exact ⟨o, hB2 _ _ e, r⟩
      replace hca : ∃ o, B2.get? ca = some o ∧ isC (some (.ref a)) o := by obtain ⟨o, e, r⟩ := hca; exact ⟨o, hB2 _ _ e, r⟩
      replace hcw : ∃ o, B2.get? cw = some o ∧ isC (some (.ref acc)) o := by obtain ⟨o, e, r⟩ := hcw; exact ⟨o, hB2 _ _ e, r⟩
      have G3 := G.kp kS2
      have KS3 := KS.kp kS2
      have R := KS3.rank
      have hr3 : ∀ i, i < 5 → ∃ r, rs[i]? = some (.ref r) ∧ Hl B2 r (bools m i) := fun i hi => by obtain ⟨r, e, l⟩ := hr i hi; exact ⟨r, e, l.kp hB2⟩
      have hl3 := hl.kp hB2
      clear hl hr M2 KS2 G2
      try dsimp only at F7 ⊢
      subst hJ2
      have hl5 : ∀ i ∈ (List.range 5).filter (fun k => cnt m [] k == 0), i < 5 := fun i hi => List.mem_range.mp (List.mem_filter.mp hi).1
      have hlen0 : ((List.range 5).filter (fun k => cnt m [] k == 0)).length ≤ 5 := Nat.le_trans (List.length_filter_le _ _) (by simp)
      refine wpAny_execs_cons <| xpr C <| cdef F7.keep C (g_heapify G3) (fn42 G3) <| args_cons <| ld F7 C (by with_reducible repeat (first | exact At.hd | apply At.tl)) <| args_nil ⟨F7.keep, use (heapify (lt := ltV f (rk K)) (hA'.le (by decide)) G3 F7.keep (F7.lt (P := isL _) List.mem_cons_self) F7.isl (by rw [List.length_map]; omega) (KS3.cmpm hl5)) fun v h8 t8 hv => ?_⟩
      obtain ⟨rfl, kb8, hl8⟩ := hv
      try dsimp only
      rw [hfy_map f (ltV f (rk K)), List.length_map] at hl8
      have F8 := F7.mut kb8 hl8
      refine wpAny_execs_cons <| wpAny_Assign_Name <| k_str fun kw0 _ => st F8 C fun h9 t9 F9 => ?_
      try dsimp only
      refine wpAny_execs_cons (wpAny_While ?_)
      refine codeAny_whileLoop (fun n s' => ∃ hh tt T l ws kt o1 o2, n = 5 - T.length ∧ s' = { s with heap := hh, toks := tt } ∧ Inv m (fun i => rkV f (rk K) (f i)) T l ∧ IntsAre ws ((List.range 5).map fun k => (cnt m T k : Int)) ∧
        Sx B2 env.locals hh ["k", "heap", "word", "here"] [o1, some (.ref acc2), some (.str (txt (T.map (97 + ·))) kt), o2] [(acc2, isL (l.map f)), (acc, isL ws)]) ?_ 5
        ⟨h9, _, [], _, ys, kw0, none, none, rfl, rfl, Inv.start R, hJ, F9⟩
      rintro n s' ⟨hh, tt, T, l, ws, kt, o1, o2, rfl, rfl, I, hws, F10⟩
      have hl5 := len5 I.H.nd I.H.lt
      have hT5 := I.len
      refine opq fun Q1 E1 hQ1 hE1 => ?_
      refine wpAny_isTrue_Compare1 <| cblt F10.keep C (g_len G3) <| args_cons <| ld F10 C (by with_reducible repeat (first | exact At.hd | apply At.tl)) <| args_nil <| len_l F10.isl (by rw [List.length_map]; omega) fun _ _ => k_int fun _ _ => i_gt ?_
      refine hQ1 _ _ ?_
      clear hQ1 hE1
      rw [List.length_map]
      rcases List.eq_nil_or_concat l with rfl | ⟨pre, last, hcc⟩
      · rw [if_neg (by simp)]
        refine wpAny_execs_nil ?_
        try dsimp only
        refine wpAny_execs_cons <| wpAny_Return_some <| ld F10 C (by with_reducible repeat (first | exact At.hd | apply At.tl)) ?_
        refine hQQ _ _ ⟨_, _, _, rfl, rfl, kS2.tr F10.keep, T, kt, rfl, ⟨I.G.nd, I.G.lt, I.G.free, fun p x r e k hk hkp hc => ?_⟩, fun k hk hkT hc => ?_⟩
        · have h1 := I.G.least p x r e k hk hkp hc
          have hx5 := I.G.lt x (by rw [e]; simp)
          rw [KS3.rkV hx5, KS3.rkV hk] at h1
          rw [rk_is hk hx5, natLt, decide_eq_false_iff_not]; omega
        · have := (I.mem k hk).mpr ⟨hkT, hc⟩
          cases this
      · rw [List.concat_eq_append] at hcc
        subst hcc
        rw [if_pos (by simp)]
        refine opq fun Q1 E1 hQ1 hE1 => ?_
        have hpre : ∀ i ∈ pre ++ [last], i < 5 := I.H.lt
        have M0 := I.pop R
        rw [List.map_append, List.map_cons, List.map_nil] at F10
        refine wpAny_execs_cons <| wpAny_Assign_Name <| Subscript_ <| cdef F10.keep C (g_heappop G3) (fn35 G3) <| args_cons <| ld F10 C (by with_reducible repeat (first | exact At.hd | apply At.tl)) <| args_nil ⟨F10.keep, use (heappop (lt := ltV f (rk K)) (hA'.le (by decide)) G3 F10.keep (F10.lt (P := isL _) List.mem_cons_self) F10.isl
          (by rw [List.length_map]; simp at hl5; omega) (fun p hp q hq => KS3.cmpm hpre p (by simpa using hp) q (by simpa using hq))) fun v h11 t11 hv => ?_⟩
        obtain ⟨rfl, kb11, hl11⟩ := hv
        rw [hpopL_map f (ltV f (rk K))] at hl11
        rw [hpopV_map f]
        generalize hxx : hpopV pre last = x at *
        have F11 := F10.mut kb11 hl11
        have hx5 := M0.hx
        obtain ⟨rx, tx, ux, efx, ox⟩ := KS3.tup x hx5
        rw [efx]
        refine k_int fun _ _ => titem (k := 1) (F11.keep _ _ ox) (by decide) rfl <| st F11 C fun h12 t12 F12 => ?_
        try dsimp only
        refine wpAny_execs_cons <| wpAny_AugAssign_Name <| ldn F12 C (by with_reducible repeat (first | exact At.hd | apply At.tl)) <| Subscript_ <| k_str fun _ _ => ld F12 C (by with_reducible repeat (first | exact At.hd | apply At.tl)) <| s_item (x := abc) (by first | with_reducible assumption | with_reducible exact lt5 (by assumption) | omega) (abc_at hx5) fun _ _ => s_iadd (by rw [List.length_map]; simp; omega) fun kt' _ => st F12 C fun h13 t13 F13 => ?_
        try dsimp only
        rw [show T.map (97 + ·) ++ [97 + x] = (T ++ [x]).map (97 + ·) by simp] at F13
        refine wpAny_execs_cons <| wpAny_For <| ctyp F13.keep C (g_range G3) <| args_cons <| k_int fun _ _ => args_nil ?_
        refine rng5 F13 fun it3 h14 t14 F14 => ?_
        try dsimp only
        refine for_in (gen_range prog w 0 1 5) (σ := List Nat × List Value × Option Value) (fun p => [p.2.2, some (.ref acc2), some (.str (txt ((T ++ [x]).map (97 + ·))) kt'), some (.int x ux)])
          (fun p v => [some v, some (.ref acc2), some (.str (txt ((T ++ [x]).map (97 + ·))) kt'), some (.int x ux)]) (fun p => [(acc2, isL (p.1.map f)), (acc, isL p.2.1)])
          (fun i p => Mid m (fun i => rkV f (rk K) (f i)) T x i p.1 ∧ IntsAre p.2.1 ((List.range 5).map fun k => (mix m T x i k : Int))) (_, ws, o1) hA'.1 C (fun _ _ => trivial) F14 ⟨M0, hws⟩ (fun p v => by walk_at "put") ?_ ?_
        · rintro i ⟨l, ws, ok⟩ v h15 t15 hi ⟨Mi, hw⟩ hv F15
          obtain ⟨ki, rfl⟩ := val0 hv
          try dsimp only at F15 Mi hw
          refine opq fun Q2 E2 hQ2 hE2 => ?_
          clear hQ1 hE1
          obtain ⟨rr, err, hrr⟩ := hr3 x hx5
          have hlen := len5 Mi.H.nd Mi.H.lt
          refine wpAny_execs_cons <| wpAny_If <| isTrue_plain <| Subscript_ <| Subscript_ <| ldk F15.keep Ka hca <| ld F15 C (by with_reducible repeat (first | exact At.hd | apply At.tl)) <| itemn (hl3.kp F15.keep) (by first | with_reducible assumption | with_reducible exact lt5 (by assumption) | omega) err <| ld F15 C (by with_reducible repeat (first | exact At.hd | apply At.tl)) <| itemn (hrr.kp F15.keep) (by first | with_reducible assumption | with_reducible exact lt5 (by assumption) | omega) (map5 _ hi) <| wpAny_truthy_bool ?_
          cases hm : m x i with
          | false =>
            rw [if_neg (by decide)]
            refine wpAny_execs_nil ?_
            try dsimp only
            refine wpAny_execs_nil (hQ2 _ _ ⟨_, _, (_, _, _), rfl, ⟨Mi.skip hm, ?_⟩, F15⟩)
            have e : ∀ k, mix m T x (i + 1) k = mix m T x i k := fun k => by
              by_cases q : k = i
              · subst q
                unfold mix
                rw [if_pos (by first | with_reducible assumption | with_reducible exact lt5 (by assumption) | omega), if_neg (by first | with_reducible assumption | with_reducible exact lt5 (by assumption) | omega), cnt_snoc Mi.hx Mi.hn, hm]; simp
              · exact mix_next k q
            simpa only [e] using hw
          | true =>
            rw [if_pos rfl]
            obtain ⟨kx, ekx⟩ := ints_get hw (map5 _ hi)
            have c1 := mix_eq Mi.hx Mi.hn hm
            have emix : mix m T x i i = cnt m (T ++ [x]) i + 1 := by unfold mix; rw [if_neg (by first | with_reducible assumption | with_reducible exact lt5 (by assumption) | omega), c1]
            have hwl := ints_len hw
            rw [List.length_map, List.length_range] at hwl
            refine wpAny_execs_cons <| wpAny_AugAssign_Subscript <| ldk F15.keep Kw hcw <| ld F15 C (by with_reducible repeat (first | exact At.hd | apply At.tl)) <| wpAny_getItem_list (F15.isl (a := acc)).is (by first | with_reducible assumption | with_reducible exact lt5 (by assumption) | omega) (by first | with_reducible assumption | with_reducible exact lt5 (by assumption) | omega) (by simpa using ekx) <| k_int fun _ _ => i_isub fun ks _ => setn (F15.isl (a := acc)) (by first | with_reducible assumption | with_reducible exact lt5 (by assumption) | omega) (by first | with_reducible assumption | with_reducible exact lt5 (by assumption) | omega) fun h16 kb16 hl16 => ?_
            try dsimp only
            rw [emix, show ((cnt m (T ++ [x]) i + 1 : Nat) : Int) - 1 = (cnt m (T ++ [x]) i : Int) by omega] at hl16
            have F16 := F15.mut kb16 hl16
            have hw' := ints_set hw i (cnt m (T ++ [x]) i : Int) ks
            have eset : ((List.range 5).map fun k => (mix m T x i k : Int)).set i (cnt m (T ++ [x]) i : Int) = (List.range 5).map fun k => (mix m T x (i + 1) k : Int) := by
              refine List.ext_getElem (by simp) fun j h1 h2 => ?_
              rw [List.getElem_set]
              simp only [List.getElem_map, List.getElem_range]
              split
              · rename_i e; subst e; unfold mix; rw [if_pos (by first | with_reducible assumption | with_reducible exact lt5 (by assumption) | omega)]
              · rename_i e; rw [mix_next j (fun q => e q.symm)]
            rw [eset] at hw'
            refine wpAny_execs_cons <| wpAny_If <| wpAny_isTrue_Compare1 <| Subscript_ <| ldk F16.keep Kw hcw <| ld F16 C (by with_reducible repeat (first | exact At.hd | apply At.tl)) <| itemn (F16.isl (a := acc)) (by first | with_reducible assumption | with_reducible exact lt5 (by assumption) | omega) (by rw [List.getElem?_set_self (by first | with_reducible assumption | with_reducible exact lt5 (by assumption) | omega)]) <| k_int fun _ _ => i_eq ?_
            by_cases hc : cnt m (T ++ [x]) i = 0
            · rw [if_pos (by simp [hc])]
              have MP := Mi.push R hi hm hc
              refine wpAny_execs_cons <| xpr C <| cdef F16.keep C (g_heappush G3) (fn28 G3) <| args_cons <| ld F16 C (by with_reducible repeat (first | exact At.hd | apply At.tl)) <| args_cons <| Subscript_ <| ldk F16.keep Kk hck <| ld F16 C (by with_reducible repeat (first | exact At.hd | apply At.tl)) <| itemn (KS3.list.kp F16.keep) (by first | with_reducible assumption | with_reducible exact lt5 (by assumption) | omega) (map5 _ hi) <| args_nil
                ⟨F16.keep, use (heappush (lt := ltV f (rk K)) (hA'.le (by decide)) G3 F16.keep (F16.lt (P := isL _) (List.mem_cons_of_mem _ List.mem_cons_self)) (F16.isl (a := acc2)) (by rw [List.length_map]; omega) (fun p hp q hq => KS3.cmpm (l := l ++ [i]) (fun j hj => by
                  rcases List.mem_append.mp hj with h | h
                  · exact Mi.H.lt j h
                  · rw [List.mem_singleton.mp h]; exact hi) p (by simpa using hp) q (by simpa using hq))) fun v h17 t17 hv => ?_⟩
              obtain ⟨rfl, kb17, hl17⟩ := hv
              try dsimp only
              rw [hpush_map f (ltV f (rk K))] at hl17
              have F17 := F16.mut kb17 hl17
              refine wpAny_execs_nil ?_
              try dsimp only
              refine wpAny_execs_nil ?_
              try dsimp only
              exact wpAny_execs_nil (hQ2 _ _ ⟨_, _, (_, _, _), rfl, ⟨MP, hw'⟩, F17⟩)
            · rw [if_neg (by simp; omega)]
              refine wpAny_execs_nil ?_
              try dsimp only
              refine wpAny_execs_nil ?_
              try dsimp only
              exact wpAny_execs_nil (hQ2 _ _ ⟨_, _, (_, _, _), rfl, ⟨Mi.dec hm hc, hw'⟩, F16⟩)
        · rintro ⟨l, ws, ok⟩ h15 t15 ⟨Mi, hw⟩ F15
          try dsimp only at F15 Mi hw ⊢
          have hT := Mi.len
          have e : ((List.range 5).map fun k => (mix m T x 5 k : Int)) = (List.range 5).map fun k => (cnt m (T ++ [x]) k : Int) := by
            refine List.map_congr_left fun k hk => ?_
            unfold mix; rw [if_pos (List.mem_range.mp hk)]
          rw [e] at hw
          refine wpAny_execs_nil (hQ1 _ _ ⟨5 - (T ++ [x]).length, by rw [List.length_append]; simp; omega, h15, _, T ++ [x], l, ws, kt', ok, _, rfl, rfl, Mi.done, hw, F15⟩)
end

noncomputable def mkS (c : Nat) : Str := ⟨#[c]⟩
noncomputable def cdS (x : Str) : Nat := x.cps.getD 0 0
theorem abc_only : ((picks 5 abc).all fun p => !(p.length == 5) || !sortedS (p.map mkS) || p == abc) = true := by decide +kernel
theorem abc_sorted {ss : List Str} (hp : ss.Perm (abc.map mkS)) (hs : sortedS ss = true) : ss = abc.map mkS := by
  have hm : ∀ x ∈ ss, ∃ c ∈ abc, x = mkS c := fun x hx => by
    obtain ⟨c, hc, e⟩ := List.mem_map.mp (hp.mem_iff.mp hx)
    exact ⟨c, hc, e.symm⟩
  have e1 : (ss.map cdS).map mkS = ss := by
    rw [List.map_map]
    conv => rhs; rw [← List.map_id ss]
    refine List.map_congr_left fun x hx => ?_
    obtain ⟨c, _, rfl⟩ := hm x hx
    rfl
  have hp' : (ss.map cdS).Perm abc := by
    have := hp.map cdS
    rw [List.map_map] at this
    exact this
  have h := List.all_eq_true.mp abc_only _ (picks_mem (n := 5) (pool := abc) (l := ss.map cdS) (by rw [hp'.length_eq]; decide) (hp'.nodup_iff.mpr (by decide)) fun x hx => hp'.mem_iff.mp hx)
  rw [e1, hs, hp'.length_eq] at h
  have : ss.map cdS = abc := by simpa [abc] using h
  rw [← e1, this]
section
variable {prog : Program} {w : World} {A : Around} {E : Value → Shared → Prop} {s : Shared} {g : Heap}
theorem strs_of_items {x : List Nat} {acc : Array Value} (h : ItemsOf (SignAt (txt x)) acc (txt x).cps.size) : StrsAre acc.toList (x.map mkS) := by
  have hn : (txt x).cps.size = x.length := by simp [txt]
  obtain ⟨h1, h2⟩ := h
  rw [hn] at h1
  have h3 : ∀ j (v : Value), acc.toList[j]? = some v → ∃ c u, x[j]? = some c ∧ v = .str (mkS c) u := fun j v e => by
    obtain ⟨c, u, hc, rfl⟩ := h2 j v (by rw [← Array.getElem?_toList]; exact e)
    exact ⟨c, u, txt_at hc, rfl⟩
  have h1' : acc.toList.length = x.length := by simpa using h1
  clear h1 h2 hn
  generalize acc.toList = l at *
  induction x generalizing l with
  | nil =>
    cases l with
    | nil => exact .nil
    | cons _ _ => simp at h1'
  | cons c r ih =>
    cases l with
    | nil => simp at h1'
    | cons v l =>
      obtain ⟨c', u, hc, rfl⟩ := h3 0 v rfl
      simp at hc
      subst hc
      exact .cons _ _ (ih l (fun j v e => by simpa using h3 (j + 1) v (by simpa using e)) (by simpa using h1'))
theorem sorted_txt {sH : Heap} {sG : Array GenState} {sD : Drawn} {sT : Nat} {sO : OsState} {x : List Nat} {t : Tok} {Q : Value → Shared → Prop} (hh : A.handled = none) (hx : x.length < 64)
    (h : ∀ r vs ss h' tk, Kp sH h' → h'.IsList r vs.toArray → StrsAre vs ss → ss.Perm (x.map mkS) → sortedS ss = true → Q (.ref r) ⟨h', sG, sD, tk, sO⟩) :
    wpAny (model prog w) A (call (.builtin "sorted") [.str (txt x) t]) Q E ⟨sH, sG, sD, sT, sO⟩ := by
  have hn : (txt x).cps.size = x.length := by simp [txt]
  refine Calls.call_function_entry kind_sorted plain_sorted entry_sorted (args_sorted1 _) ?_
  unfold Builtin.«sorted»
  refine wpAny_bind (m := checkCount "sorted" 1 1 _) (wpAny_pure ?_)
  refine wpAny_bind (wpAny_collect_str (A := A.in1) hh (txt x) t (fun s' acc hk e1 e2 e3 hacc => ?_) (by rw [hn, sizeLine_eq]; omega))
  have hS := strs_of_items hacc
  have hlen : acc.toList.length = x.length := by rw [Array.length_toList, hacc.1, hn]
  obtain ⟨h', g', d', t', o'⟩ := s'
  try dsimp only at hk e1 e2 e3
  subst e1 e2 e3
  refine wpAny_bind (wpAny_newList ?_)
  have hoL : (h'.push (seqObj "list" acc.toList.toArray 0)).get? h'.objs.size = some (seqObj "list" acc.toList.toArray 0) := Heap.get?_push_size _ rfl
  refine wpAny_bind (wpAny_holding (wpAny_call_entry slot_list_sort ⟨_, hoL, rfl⟩ entry_list_sort (list_sort_treeK strKind_oneLt hoL hS.keysOf (fun v₁ v₂ rest e => keyKind_strs (by rw [← e]; exact hS)) (by first | with_reducible assumption | with_reducible exact lt5 (by assumption) | omega) fun st' a1 a2 => ⟨_, rfl, ?_⟩) (args_list_sort _)))
  obtain ⟨ss', b1, b2, b3⟩ := sorted_out_str hS a1 a2
  obtain ⟨ee, he⟩ := sortedHeap_at (out := (arrOf st').map (·.2)) hoL
  refine wpAny_pure ⟨_, rfl, h h'.objs.size ((arrOf st').map (·.2)).toList ss' _ _ (fun b o e => ?_) ⟨_, he, rfl, ee, rfl⟩ b1 b2 b3⟩
  have e' := hk b o e
  have hlt := Heap.lt_size e'
  show (sortedHeap _ _ _ _).get? b = _
  rw [sortedHeap_old (Nat.ne_of_lt hlt) (by rw [Heap.size_push]; exact Nat.lt_succ_of_lt hlt)]
  exact Heap.get?_push_of_some _ e'
theorem list_txt {sH : Heap} {sG : Array GenState} {sD : Drawn} {sT : Nat} {sO : OsState} {x : List Nat} {t : Tok} {Q : Value → Shared → Prop} (hh : A.handled = none) (hx : x.length < 64)
    (h : ∀ r vs h' tk, Kp sH h' → h'.IsList r vs.toArray → StrsAre vs (x.map mkS) → Q (.ref r) ⟨h', sG, sD, tk, sO⟩) :
    wpAny (model prog w) A (call (.type "list") [.str (txt x) t]) Q E ⟨sH, sG, sD, sT, sO⟩ := by
  refine call_list_str hh (txt x) t (fun h' tk acc c hk ho hacc => ?_) (by simp [txt, sizeLine_eq]; omega)
  exact h _ acc.toList h' tk hk ⟨_, ho, rfl, c, by simp⟩ (strs_of_items hacc)
theorem reads_of_strs' {h : Heap} {vs : List Value} {ss : List Str} (hi : StrsAre vs ss) : ReadsAll h vs (ss.map PyData.str) [] := by
  induction hi with
  | nil => exact .nil
  | cons n t _ ih => exact ReadsAll.cons (as := []) (bs := []) (.str _ _) ih
theorem reads_strs {h : Heap} {a : Addr} {vs : List Value} {ss : List Str} (hl : h.IsList a vs.toArray) (hi : StrsAre vs ss) : Reads h (.ref a) (.list (ss.map PyData.str)) [a] := by
  obtain ⟨o, ho, hc, n, hd⟩ := hl
  exact Reads.list ho hc hd (by simpa using reads_of_strs' hi)
theorem eq_abc {a b : Addr} {vs us : List Value} {Q : Value → Shared → Prop} (hl : s.heap.IsList a vs.toArray) (hi : StrsAre vs (abc.map mkS)) (hl' : s.heap.IsList b us.toArray) (hi' : StrsAre us (abc.map mkS)) (hu : A.units + 64 < 9900)
    (h : Q (.bool true) s) : wpAny (model prog w) A (compareOp .Eq (.ref a) (.ref b)) Q E s :=
  eq_dataH_same (reads_strs hl hi) (reads_strs hl' hi') (by decide +kernel) (by decide +kernel) hu (by decide +kernel) (by
    rw [show PySem.Spec.same (.list ((abc.map mkS).map PyData.str)) (.list ((abc.map mkS).map PyData.str)) = true by decide +kernel]; exact h)
theorem b_ne {a b : Bool} {Q : Value → Shared → Prop} (h : Q (.bool (!(a == b))) s) : wpAny (model prog w) A (compareOp .NotEq (.bool a) (.bool b)) Q E s := (SeqAt.RcNeAt.bool_bool a b) prog w E Q h
end

noncomputable def dueF (l : List Nat) (m : Nat → Nat → Bool) (K : Nat → Int) (i k n : Nat) : Bool := m i k || (List.range n).any fun j => m j k && lexlt (K i) i (K j) j && comesP l (97 + i) (97 + j)
theorem dueF_succ (l : List Nat) (m : Nat → Nat → Bool) (K : Nat → Int) (i k n : Nat) : dueF l m K i k (n + 1) = (dueF l m K i k n || (m n k && lexlt (K i) i (K n) n && comesP l (97 + i) (97 + n))) := by
  unfold dueF
  rw [List.range_succ, List.any_append]; simp [Bool.or_assoc]
noncomputable def ToldP (l : List Nat) (m : Nat → Nat → Bool) (K : Nat → Int) : Prop := ∀ i k, i < 5 → k < 5 → lexlt (K k) k (K i) i = true → comesP l (97 + i) (97 + k) = dueF l m K i k 5
section
variable {prog : Program} {w : World} {A : Around} {E : Value → Shared → Prop} {s : Shared} {g : Heap}
theorem law_told {l : List Nat} {t : Tok} {a kl : Addr} {m : Nat → Nat → Bool} {K : Nat → Int} {f : Nat → Value} (hA : Ar A 3) (G : Gk w s.heap) (M : Mat s.heap a m) (KS : KeysAt s.heap kl K f) (hp : l.Perm abc) (H : ToldP l m K) :
    codeAny (model prog w) A (.call (.ref 162) ⟨[.str (txt l) t, .ref kl, .ref a], []⟩) (Ends s fun v h => Kp s.heap h ∧ v = .bool true) s := by
  refine enter ["word", "keys", "left"] ["i", "k", "due", "j"] ["range", "_law_comes", "sorted", "list"] ["word", "keys", "left", "i", "k", "due", "j"] [some (.str (txt l) t), some (.ref kl), some (.ref a), none, none, none, none] (g := s.heap) (nw := []) hA.room (fn162 G) G.nolimit Kp.rf
    (by simp) (by simp) (by with_unfolding_all rfl) (by with_unfolding_all rfl) rfl (by decide +kernel) (by decide +kernel) (by decide +kernel) rfl rfl (fun env AA h₀ t₀ hAA C F => ?_)
  refine opq fun QQ EE hQQ _ => ?_
  have hA' := hAA (fun a => Ar a _) (hA.deeper env)
  have hlen : l.length = 5 := hp.length_eq
  obtain ⟨rs, hl, hn, hr⟩ := id M
  refine wpAny_execs_cons <| wpAny_For <| ctyp F.keep C (g_range G) <| args_cons <| k_int fun _ _ => args_nil ?_
  refine rng5 F fun it h1 t1 F1 => ?_
  try dsimp only
  refine for_in (gen_range prog w 0 1 5) (σ := Option Value × Option Value × Option Value × Option Value) (fun p => [some (.str (txt l) t), some (.ref kl), some (.ref a), p.1, p.2.1, p.2.2.1, p.2.2.2]) (fun p v => [some (.str (txt l) t), some (.ref kl), some (.ref a), some v, p.2.1, p.2.2.1, p.2.2.2])
    (fun _ => []) (fun _ _ => True) (none, none, none, none) hA'.1 C (fun _ _ => trivial) F1 trivial (fun p v => by walk_at "put") ?_ ?_
  · rintro i ⟨o1, o2, o3, o4⟩ v h2 t2 hi - hv F2
    refine opq fun Q1 E1 hQ1 _ => ?_
    obtain ⟨ki, rfl⟩ := val0 hv
    try dsimp only at F2
    refine wpAny_execs_cons <| wpAny_For <| ctyp F2.keep C (g_range G) <| args_cons <| k_int fun _ _ => args_nil ?_
    refine rng5 F2 fun it2 h3 t3 F3 => ?_
    try dsimp only
    refine for_in (gen_range prog w 0 1 5) (σ := Option Value × Option Value × Option Value) (fun p => [some (.str (txt l) t), some (.ref kl), some (.ref a), some (.int i ki), p.1, p.2.1, p.2.2]) (fun p v => [some (.str (txt l) t), some (.ref kl), some (.ref a), some (.int i ki), some v, p.2.1, p.2.2])
      (fun _ => [(it, isRg 0 1 5 (i + 1))]) (fun _ _ => True) (o2, o3, o4) hA'.1 C (fun _ _ => trivial) F3 trivial (fun p v => by walk_at "put") ?_ ?_
    · rintro k ⟨o2, o3, o4⟩ v h4 t4 hk - hv F4
      refine opq fun Q1 E1 hQ1 _ => ?_
      obtain ⟨kk, rfl⟩ := val0 hv
      try dsimp only at F4
      have KS4 := KS.kp F4.keep
      obtain ⟨ri, eri, hri⟩ := hr i hi
      obtain ⟨r1, t1', u1, e1, ob1⟩ := KS4.tup k hk
      obtain ⟨r2, t2', u2, e2, ob2⟩ := KS4.tup i hi
      refine wpAny_execs_cons <| wpAny_If <| wpAny_isTrue_Compare1 <| Subscript_ <| ld F4 C (by with_reducible repeat (first | exact At.hd | apply At.tl)) <| ld F4 C (by with_reducible repeat (first | exact At.hd | apply At.tl)) <| itemn KS4.list (by first | with_reducible assumption | with_reducible exact lt5 (by assumption) | omega) (map5 _ hk) <| Subscript_ <| ld F4 C (by with_reducible repeat (first | exact At.hd | apply At.tl)) <| ld F4 C (by with_reducible repeat (first | exact At.hd | apply At.tl)) <| itemn KS4.list (by first | with_reducible assumption | with_reducible exact lt5 (by assumption) | omega) (map5 _ hi) <| ?_
      rw [e1, e2]
      refine tup_lt ob1 ob2 _ _ _ _ hA'.room2 Kp.rf <| wpAny_truthy_bool ?_
      cases hlt : lexlt (K k) k (K i) i with
      | false =>
        rw [if_neg (by decide)]
        refine wpAny_execs_nil ?_
        try dsimp only
        exact wpAny_execs_nil (hQ1 _ _ ⟨_, _, (_, _, _), rfl, trivial, F4⟩)
      | true =>
        rw [if_pos rfl]
        refine wpAny_execs_cons <| wpAny_Assign_Name <| Subscript_ <| Subscript_ <| ld F4 C (by with_reducible repeat (first | exact At.hd | apply At.tl)) <| ld F4 C (by with_reducible repeat (first | exact At.hd | apply At.tl)) <| itemn (hl.kp F4.keep) (by first | with_reducible assumption | with_reducible exact lt5 (by assumption) | omega) eri <| ld F4 C (by with_reducible repeat (first | exact At.hd | apply At.tl)) <| itemn (hri.kp F4.keep) (by first | with_reducible assumption | with_reducible exact lt5 (by assumption) | omega) (map5 _ hk) <| st F4 C fun h5 t5 F5 => ?_
        try dsimp only
        refine wpAny_execs_cons <| wpAny_For <| ctyp F5.keep C (g_range G) <| args_cons <| k_int fun _ _ => args_nil ?_
        refine rng5 F5 fun it3 h6 t6 F6 => ?_
        try dsimp only
        refine for_in (gen_range prog w 0 1 5) (σ := Bool × Option Value) (fun p => [some (.str (txt l) t), some (.ref kl), some (.ref a), some (.int i ki), some (.int k kk), some (.bool p.1), p.2]) (fun p v => [some (.str (txt l) t), some (.ref kl), some (.ref a), some (.int i ki), some (.int k kk), some (.bool p.1), some v])
          (fun _ => [(it2, isRg 0 1 5 (k + 1)), (it, isRg 0 1 5 (i + 1))]) (fun n p => p.1 = dueF l m K i k n) (m i k, o4) hA'.1 C (fun _ _ => trivial) F6 (by simp [dueF]) (fun p v => by walk_at "put") ?_ ?_
        · rintro j ⟨due, o4⟩ v h7 t7 hj hdue hv F7
          refine opq fun Q1 E1 hQ1 _ => ?_
          obtain ⟨kj, rfl⟩ := val0 hv
          try dsimp only at F7 hdue
          have KS7 := KS.kp F7.keep
          obtain ⟨rj, erj, hrj⟩ := hr j hj
          obtain ⟨r1, t1', u1, e1, ob1⟩ := KS7.tup i hi
          obtain ⟨r2, t2', u2, e2, ob2⟩ := KS7.tup j hj
          refine wpAny_execs_cons <| wpAny_If <| t_bool <| all_cons <| isTrue_plain <| Subscript_ <| Subscript_ <| ld F7 C (by with_reducible repeat (first | exact At.hd | apply At.tl)) <| ld F7 C (by with_reducible repeat (first | exact At.hd | apply At.tl)) <| itemn (hl.kp F7.keep) (by first | with_reducible assumption | with_reducible exact lt5 (by assumption) | omega) erj <| ld F7 C (by with_reducible repeat (first | exact At.hd | apply At.tl)) <| itemn (hrj.kp F7.keep) (by first | with_reducible assumption | with_reducible exact lt5 (by assumption) | omega) (map5 _ hk) <| wpAny_truthy_bool ?_
          cases hm : m j k with
          | false =>
            rw [if_neg (by decide), if_neg (by decide)]
            refine wpAny_execs_nil ?_
            try dsimp only
            exact wpAny_execs_nil (hQ1 _ _ ⟨_, _, (_, _), rfl, by rw [dueF_succ, hm]; simpa using hdue, F7⟩)
          | true =>
            rw [if_pos rfl]
            refine all_cons <| wpAny_isTrue_Compare1 <| Subscript_ <| ld F7 C (by with_reducible repeat (first | exact At.hd | apply At.tl)) <| ld F7 C (by with_reducible repeat (first | exact At.hd | apply At.tl)) <| itemn KS7.list (by first | with_reducible assumption | with_reducible exact lt5 (by assumption) | omega) (map5 _ hi) <| Subscript_ <| ld F7 C (by with_reducible repeat (first | exact At.hd | apply At.tl)) <| ld F7 C (by with_reducible repeat (first | exact At.hd | apply At.tl)) <| itemn KS7.list (by first | with_reducible assumption | with_reducible exact lt5 (by assumption) | omega) (map5 _ hj) <| ?_
            rw [e1, e2]
            refine tup_lt ob1 ob2 _ _ _ _ hA'.room2 Kp.rf <| wpAny_truthy_bool ?_
            cases hlt2 : lexlt (K i) i (K j) j with
            | false =>
              rw [if_neg (by decide), if_neg (by decide)]
              refine wpAny_execs_nil ?_
              try dsimp only
              exact wpAny_execs_nil (hQ1 _ _ ⟨_, _, (_, _), rfl, by rw [dueF_succ, hm, hlt2]; simpa using hdue, F7⟩)
            | true =>
              rw [if_pos rfl]
              refine all_cons <| isTrue_plain <| cdef F7.keep C (g_comes G) (fn155 G) <| args_cons <| ld F7 C (by with_reducible repeat (first | exact At.hd | apply At.tl)) <| args_cons <| ld F7 C (by with_reducible repeat (first | exact At.hd | apply At.tl)) <| args_cons <| ld F7 C (by with_reducible repeat (first | exact At.hd | apply At.tl)) <| args_nil ⟨F7.keep, use (law_comes (hA'.le (by decide)) (G.kp F7.keep) (by first | with_reducible assumption | with_reducible exact lt5 (by assumption) | omega) hi hj) fun v h8 t8 hv => ?_⟩
              obtain ⟨k8, rfl⟩ := hv
              have F8 := F7.call k8
              refine wpAny_truthy_bool ?_
              cases hcm : comesP l (97 + i) (97 + j) with
              | false =>
                rw [if_neg (by decide), if_neg (by decide)]
                refine wpAny_execs_nil ?_
                try dsimp only
                exact wpAny_execs_nil (hQ1 _ _ ⟨_, _, (_, _), rfl, by rw [dueF_succ, hm, hlt2, hcm]; simpa using hdue, F8⟩)
              | true =>
                rw [if_pos rfl]
                refine all_nil ?_
                rw [if_pos rfl]
                refine wpAny_execs_cons <| wpAny_Assign_Name <| k_bool <| st F8 C fun h9 t9 F9 => ?_
                try dsimp only
                refine wpAny_execs_nil ?_
                try dsimp only
                exact wpAny_execs_nil (hQ1 _ _ ⟨_, _, (_, _), rfl, by rw [dueF_succ, hm, hlt2, hcm]; simp, F9⟩)
        · rintro ⟨due, o4⟩ h7 t7 hdue F7
          try dsimp only at F7 hdue ⊢
          refine wpAny_execs_cons <| wpAny_If <| wpAny_isTrue_Compare1 <| cdef F7.keep C (g_comes G) (fn155 G) <| args_cons <| ld F7 C (by with_reducible repeat (first | exact At.hd | apply At.tl)) <| args_cons <| ld F7 C (by with_reducible repeat (first | exact At.hd | apply At.tl)) <| args_cons <| ld F7 C (by with_reducible repeat (first | exact At.hd | apply At.tl)) <| args_nil ⟨F7.keep, use (law_comes (hA'.le (by decide)) (G.kp F7.keep) (by first | with_reducible assumption | with_reducible exact lt5 (by assumption) | omega) hi hk) fun v h8 t8 hv => ?_⟩
          obtain ⟨k8, rfl⟩ := hv
          have F8 := F7.call k8
          refine ld F8 C (by with_reducible repeat (first | exact At.hd | apply At.tl)) <| b_ne <| wpAny_truthy_bool ?_
          rw [hdue, H i k hi hk hlt]
          rw [if_neg (by simp)]
          refine wpAny_execs_nil ?_
          try dsimp only
          refine wpAny_execs_nil ?_
          try dsimp only
          exact wpAny_execs_nil (hQ1 _ _ ⟨_, _, (_, _, _), rfl, trivial, F8⟩)
    · rintro ⟨o2, o3, o4⟩ h4 t4 - F4
      try dsimp only at F4 ⊢
      exact wpAny_execs_nil (hQ1 _ _ ⟨_, _, (_, _, _, _), rfl, trivial, F4⟩)
  · rintro ⟨o1, o2, o3, o4⟩ h2 t2 - F2
    try dsimp only at F2 ⊢
    refine wpAny_execs_cons <| wpAny_Return_some <| wpAny_Compare1 <| cblt F2.keep C (g_sorted G) <| args_cons <| ld F2 C (by with_reducible repeat (first | exact At.hd | apply At.tl)) <| args_nil <| sorted_txt hA'.1 (by first | with_reducible assumption | with_reducible exact lt5 (by assumption) | omega) fun r vs ss h3 t3 k3 hl3 hs3 hp3 hss => ?_
    have F3 := F2.call k3
    refine ctyp F3.keep C (g_list G) <| args_cons <| k_str fun _ _ => args_nil <| list_txt (x := abc) hA'.1 (by decide) fun r4 us h4 t4 k4 hl4 hs4 => ?_
    have e := abc_sorted (hp3.trans (hp.map mkS)) hss
    subst e
    refine eq_abc (hl3.at fun o e => k4 _ o e) hs3 hl4 hs4 (by have := hA'.2.2; omega) ?_
    exact hQQ _ _ ⟨_, _, _, rfl, rfl, F2.keep.tr (k3.tr k4), rfl⟩
end

theorem Sx.off {g h h' : Heap} {L : Addr} {ns : List Str} {vs : List (Option Value)} {nw : Nw} {wr : List Addr} (F : Sx g L h ns vs nw) (hk : ∀ b o, b ∉ wr → h.get? b = some o → h'.get? b = some o) (hw : ∀ b ∈ wr, b ∉ keys L nw ∧ g.get? b = none) : Sx g L h' ns vs nw := by
  refine ⟨ns_kp F.loc (fun o e => hk _ o (fun q => (hw _ q).1 List.mem_cons_self) e), fun b o e => hk b o (fun q => by rw [(hw _ q).2] at e; cases e) (F.keep b o e), F.noL, fun p hp => ?_, F.nd⟩
  obtain ⟨⟨o, e, r⟩, z⟩ := F.news p hp
  exact ⟨⟨o, hk _ _ (fun q => (hw _ q).1 (List.mem_cons_of_mem _ (List.mem_map_of_mem (f := fun x : Addr × (Obj → Prop) => x.1) hp))) e, r⟩, z⟩
section
variable {prog : Program} {w : World} {A : Around} {E : Value → Shared → Prop} {s : Shared} {env : Env} {g : Heap} {ns gs : List Str} {vs : List (Option Value)} {nw : Nw}
theorem max_l {sH : Heap} {sG : Array GenState} {sD : Drawn} {sT : Nat} {sO : OsState} {l : Addr} {vs : List Value} {ns : List Int} {Q : Value → Shared → Prop} (hh : A.handled = none) (hl : sH.IsList l vs.toArray) (hi : IntsAre vs ns) (hne : 0 < ns.length)
    (h : ∀ h' M (t : Tok) tk, Kp sH h' → M ∈ ns → (∀ a, a ∈ ns → a ≤ M) → Q (.int M t) ⟨h', sG, sD, tk, sO⟩) : wpAny (model prog w) A (call (.builtin "max") [.ref l]) Q E ⟨sH, sG, sD, sT, sO⟩ := by
  obtain ⟨xs, e⟩ := hi.allInts.items
  have hns : ns = xs.toList.map (·.1) := by
    rw [← hi.numsOf, ← nums_intItems, ← e]
  have hsz : 0 < xs.size := by
    have h3 := hne; rw [hns, List.length_map, Array.length_toList] at h3; exact h3
  rw [e] at hl
  refine max_intList hh hl hsz fun v h' tk hv hk => ?_
  obtain ⟨t, rfl⟩ := intItems_at hv
  obtain ⟨h1, h2⟩ := argBest_gt (numAt xs) (xs.size - 1)
  refine h _ _ t tk hk ?_ fun a ha => ?_
  · rw [hns, numAt_eq]; exact getD_mem (by rw [List.length_map, Array.length_toList]; omega)
  · rw [hns] at ha
    obtain ⟨j, hj, rfl⟩ := mem_getD ha
    rw [List.length_map, Array.length_toList] at hj
    rw [← numAt_eq]; exact h2 j (by first | with_reducible assumption | with_reducible exact lt5 (by assumption) | omega)
theorem zip_loop {elt iter : PySem.Expr} {x y : Str} {p1 p2 tp pos : Pos} {kt : Nat} {scope : Scope} {cenv : Env} {cgs : List Str} {acc it : Addr} {v1 v2 : List Value} {n1 n2 : List Int} {R : Result → Shared → Prop} {fp wr : List Addr} {St : Nat → Heap → Prop} {Md : Nat → Addr → Heap → Prop}
    {sH : Heap} {sG : Array GenState} {sD : Drawn} {sT : Nat} {sO : OsState}
    (hh : A.handled = none) (CC : En cenv [x, y] cgs) (W : WalksT prog w A it fp wr n1.length (fun i vals => ∃ a b, v1.toArray[i]? = some a ∧ v2.toArray[i]? = some b ∧ vals = #[a, b]) St Md) (hi1 : IntsAre v1 n1) (hi2 : IntsAre v2 n2) (hlen : n1.length = n2.length) (hb : n1.length ≤ 1000)
    (hst₂ : St 0 sH) (F₂ : Sx g cenv.locals sH [x, y] [none, none] [(acc, isL [])]) (outk : ∀ b ∈ wr, b ∉ keys cenv.locals [(acc, isL ([] : List Value))] ∧ g.get? b = none) (fpC : ∀ b ∈ fp, b ≠ cenv.locals ∧ b ≠ acc)
    (helt : ∀ a b t u s' (E' : Value → Shared → Prop) (Q' : Value → Shared → Prop) B nw', Sx B cenv.locals s'.heap [x, y] [some (.int a t), some (.int b u)] nw' → (∀ k tk, Q' (.int (a - b) k) { s' with toks := tk }) → wpAny (model prog w) A (eval elt cenv) Q' E' s')
    (fin : ∀ ys o1 o2 h t, Sx g cenv.locals h [x, y] [o1, o2] [(acc, isL ys)] → IntsAre ys (List.zipWith (· - ·) n1 n2) → R (.ok .next) ⟨h, sG, sD, t, sO⟩) :
    codeAny (model prog w) A (.compLoop (.ListComp elt [⟨.Tuple [.Name x p1, .Name y p2] kt tp, iter, [], 0⟩] scope pos) 0 (.ref it) (.ref acc) cenv) R ⟨sH, sG, sD, sT, sO⟩ := by
  refine LCp.codeAny_compLoop_pair (fun k s' => ∃ i ys o1 o2 hh tt, k = n1.length - i ∧ i ≤ n1.length ∧ s' = ⟨hh, sG, sD, tt, sO⟩ ∧ St i hh ∧ IntsAre ys ((List.zipWith (· - ·) n1 n2).take i) ∧ ys.length = i ∧
    Sx g cenv.locals hh [x, y] [o1, o2] [(acc, isL ys)]) ?_ n1.length ⟨0, [], none, none, _, _, rfl, Nat.zero_le _, rfl, hst₂, IntsAre.nil, rfl, F₂⟩
  rintro k s' ⟨i, ys, o1, o2, h₃, t₃, rfl, hi, rfl, hst₃, hy, hyl, F₃⟩
  have outk' : ∀ b ∈ wr, b ∉ keys cenv.locals [(acc, isL ys)] ∧ g.get? b = none := outk
  by_cases hlt : i < n1.length
  · refine opq fun Q1 E1 hQ1 _ => ?_
    refine W.item i _ _ _ hlt hst₃ fun T vals h₄ t₄ hPt _ hT hM hk₄ => ?_
    refine hQ1 _ _ ?_
    clear hQ1
    refine opq fun Q1 E1 hQ1 _ => ?_
    have F₄ := F₃.off hk₄ outk'
    refine W.go _ _ _ i T _ _ _ hM fun h₅ hst₅ hk₅ => ?_
    refine hQ1 _ _ ?_
    clear hQ1
    refine opq fun Q1 E1 hQ1 _ => ?_
    have F₅ := F₄.off hk₅ outk'
    have hT₅ : h₅.IsTuple T vals := hT.at fun o e => hk₅ _ o (W.apart _ _ _ hM) e
    obtain ⟨a, b, ha, hb', rfl⟩ := hPt
    obtain ⟨ta, rfl⟩ : ∃ t, a = .int (n1.getD i 0) t := by
      have hg : n1[i]? = some (n1.getD i 0) := by rw [List.getD_eq_getElem?_getD, List.getElem?_eq_getElem hlt]; rfl
      obtain ⟨t, ht⟩ := ints_get hi1 hg
      have ha' : v1[i]? = some a := by simpa using ha
      rw [ha'] at ht
      exact ⟨t, Option.some.inj ht⟩
    obtain ⟨tb, rfl⟩ : ∃ t, b = .int (n2.getD i 0) t := by
      have hg : n2[i]? = some (n2.getD i 0) := by rw [List.getD_eq_getElem?_getD, List.getElem?_eq_getElem (by first | with_reducible assumption | with_reducible exact lt5 (by assumption) | omega)]; rfl
      obtain ⟨t, ht⟩ := ints_get hi2 hg
      have hb'' : v2[i]? = some b := by simpa using hb'
      rw [hb''] at ht
      exact ⟨t, Option.some.inj ht⟩
    refine assign_Tuple_tuple hh hT₅ rfl rfl fun h₆ hk₆ => ?_
    have k₆ : Kp h₅ h₆ := fun b o e => hk₆ b o (Nat.ne_of_lt (Heap.lt_size e)) e
    have F₆ := F₅.call k₆
    have hst₆ : St (i + 1) h₆ := W.frame _ _ _ hst₅ fun b _ o e => k₆ _ _ e
    refine wpAny_bind (wpAny_holding (assign_Name (wpAny_storeName_local (CC.loc x (by simp)).1 F₆.loc (fun h₇ hn₇ hs₇ => ?_) (by rw [CC.kind]; rfl))))
    have F₇ := F₆.set (vs' := [some (.int (n1.getD i 0) ta), o2]) CC.dup Put.hd hn₇ hs₇
    have hst₇ : St (i + 1) h₇ := W.frame _ _ _ hst₆ fun b hb o e => (hs₇.2 b (fpC b hb).1).trans e
    refine wpAny_bind (wpAny_holding (assign_Name (wpAny_storeName_local (CC.loc y (by simp)).1 F₇.loc (fun h₈ hn₈ hs₈ => ?_) (by rw [CC.kind]; rfl))))
    have F₈ := F₇.set (vs' := [some (.int (n1.getD i 0) ta), some (.int (n2.getD i 0) tb)]) CC.dup (Put.tl Put.hd) hn₈ hs₈
    have hst₈ : St (i + 1) h₈ := W.frame _ _ _ hst₇ fun b hb o e => (hs₈.2 b (fpC b hb).1).trans e
    refine wpAny_pure ?_
    refine hQ1 _ _ ?_
    clear hQ1
    refine opq fun Q1 E1 hQ1 _ => ?_
    refine helt _ _ _ _ _ _ _ _ _ F₈ fun kd tk => ?_
    refine hQ1 _ _ ?_
    clear hQ1
    refine opq fun Q1 E1 hQ1 _ => ?_
    obtain ⟨oo, ee, nn, rfl⟩ := id (F₈.isl (a := acc))
    refine wpAny_list_append_plain (items := ys.toArray) ⟨nn, ee⟩ (fun h₉ hl₉ hs₉ => ?_) (by rw [List.size_toArray, sizeLine_eq]; omega)
    have hl₉' : Hl h₉ acc (ys ++ [.int (n1.getD i 0 - n2.getD i 0) kd]) := by
      obtain ⟨n', e'⟩ := hl₉
      exact ⟨_, e', n', by simp⟩
    have F₉ := F₈.mut (KpB.of_same hs₉) hl₉' Ch.hd
    have hst₉ : St (i + 1) h₉ := W.frame _ _ _ hst₈ fun b hb o e => (hs₉.2 b (fpC b hb).2).trans e
    refine hQ1 _ _ ⟨n1.length - (i + 1), by omega, i + 1, _, _, _, h₉, _, rfl, hlt, rfl, hst₉, ?_, by simp [hyl], F₉⟩
    have hz' : (List.zipWith (· - ·) n1 n2)[i]? = some (n1.getD i 0 - n2.getD i 0) := by
      rw [List.getElem?_zipWith, List.getElem?_eq_getElem hlt, List.getElem?_eq_getElem (show i < n2.length by omega)]
      simp [List.getD_eq_getElem?_getD, List.getElem?_eq_getElem hlt, List.getElem?_eq_getElem (show i < n2.length by omega)]
    rw [List.take_add_one, hz']
    exact hy.append (IntsAre.cons _ _ IntsAre.nil)
  · have hin : i = n1.length := by omega
    subst hin
    refine W.done _ _ _ hst₃ fun h₄ t₄ hk₄ => ?_
    have F₄ := F₃.off hk₄ outk'
    rw [List.take_of_length_le (by simp; omega)] at hy
    exact fin ys o1 o2 h₄ _ F₄ hy
theorem zip_comp {elt iter : PySem.Expr} {x y : Str} {p1 p2 tp pos : Pos} {kt : Nat} {scope : Scope} {cl : List (Str × Addr)} {cgs : List Str} {l1 l2 : Addr} {v1 v2 : List Value} {n1 n2 : List Int} {Q : Value → Shared → Prop}
    (hh : A.handled = none) (C : En env ns gs) (hsc : scOk scope [x, y] cgs = true) (hcell : ∀ z ∈ scope.names, z.2 ≠ .cell) (hl1 : Hl s.heap l1 v1) (hl2 : Hl s.heap l2 v2) (hi1 : IntsAre v1 n1) (hi2 : IntsAre v2 n2) (hlen : n1.length = n2.length) (hb : n1.length ≤ 1000)
    (helt : ∀ D a b t u s' (E' : Value → Shared → Prop) (Q' : Value → Shared → Prop) B nw', En (compEnvC scope cl D env) [x, y] cgs → Sx B (compEnvC scope cl D env).locals s'.heap [x, y] [some (.int a t), some (.int b u)] nw' → (∀ k tk, Q' (.int (a - b) k) { s' with toks := tk }) → wpAny (model prog w) A (eval elt (compEnvC scope cl D env)) Q' E' s')
    (h : ∀ acc ys h' t', Kp s.heap h' → s.heap.get? acc = none → Hl h' acc ys → IntsAre ys (List.zipWith (· - ·) n1 n2) → Q (.ref acc) { s with heap := h', toks := t' }) :
    wpAny (model prog w) A (call (.type "zip") [.ref l1, .ref l2]) (fun v s₁ => wpAny (model prog w) A (pyIter v) (fun it s₂ => wpAny (model prog w) A (newList []) (fun acc s₃ =>
      wpAny (model prog w) A (newFunctionEnv scope env.globals cl [] env.qual none .none (some env)) (fun cenv s₄ =>
        codeAny (model prog w) A (.compStart (.ListComp elt [⟨.Tuple [.Name x p1, .Name y p2] kt tp, iter, [], 0⟩] scope pos) 0 it acc { cenv with scope := relabel scope env }) (compPost (model prog w) A E none Q acc cenv.locals) s₄) E s₃) E s₂) E s₁) E s := by
  have hkind : scope.kind = .function := by
    simp only [scOk, Bool.and_eq_true, List.all_eq_true, beq_iff_eq] at hsc
    exact hsc.1.1.1
  have lt1 : l1 < s.heap.objs.size := let ⟨o, e, _⟩ := hl1; Heap.lt_size e
  have lt2 : l2 < s.heap.objs.size := let ⟨o, e, _⟩ := hl2; Heap.lt_size e
  have e1 := ints_len hi1
  have e2 := ints_len hi2
  refine call_zip_2 hl1.is hl2.is fun h₁ hz hTI hTO hi1' hi2' hsz hk => ?_
  have D := zipApart_new lt1 lt2
  have W := WalksT.zip2 (prog := prog) (w := w) (A := A) hh _ _ _ _ _ _ _ D v1.toArray v2.toArray
  have hst : IsZip h₁ (s.heap.objs.size + 4) (s.heap.objs.size + 2) (s.heap.objs.size + 3) .none ∧ IsPair h₁ (s.heap.objs.size + 2) (.ref s.heap.objs.size) (.ref (s.heap.objs.size + 1)) ∧ (∃ a b, IsPair h₁ (s.heap.objs.size + 3) a b) ∧ h₁.IsListIter s.heap.objs.size l1 0 ∧ h₁.IsListIter (s.heap.objs.size + 1) l2 0 ∧ h₁.IsList l1 v1.toArray ∧ h₁.IsList l2 v2.toArray :=
    ⟨hz, hTI, ⟨_, _, hTO⟩, hi1', hi2', (hl1.kp hk).is, (hl2.kp hk).is⟩
  generalize hSt : (fun (i : Nat) (h : Heap) => IsZip h (s.heap.objs.size + 4) (s.heap.objs.size + 2) (s.heap.objs.size + 3) .none ∧ IsPair h (s.heap.objs.size + 2) (.ref s.heap.objs.size) (.ref (s.heap.objs.size + 1)) ∧ (∃ a b, IsPair h (s.heap.objs.size + 3) a b) ∧ h.IsListIter s.heap.objs.size l1 i ∧ h.IsListIter (s.heap.objs.size + 1) l2 i ∧ h.IsList l1 v1.toArray ∧ h.IsList l2 v2.toArray) = St at W
  have hst : St 0 h₁ := by rw [← hSt]; exact hst
  have hfp : ∀ b ∈ [s.heap.objs.size + 4, s.heap.objs.size + 2, s.heap.objs.size + 3, s.heap.objs.size, s.heap.objs.size + 1, l1, l2], b < h₁.objs.size := by
    intro b hb
    rw [hsz]
    simp only [List.mem_cons, List.not_mem_nil, or_false] at hb
    rcases hb with e | e | e | e | e | e | e <;> rw [e]
    · exact Nat.lt_succ_self _
    · exact Nat.add_lt_add_left (by decide) _
    · exact Nat.add_lt_add_left (by decide) _
    · exact Nat.lt_add_of_pos_right (by decide)
    · exact Nat.add_lt_add_left (by decide) _
    · exact Nat.lt_of_lt_of_le lt1 (Nat.le_add_right _ _)
    · exact Nat.lt_of_lt_of_le lt2 (Nat.le_add_right _ _)
  have hwr : ∀ b ∈ [s.heap.objs.size + 4, s.heap.objs.size + 3, s.heap.objs.size, s.heap.objs.size + 1], s.heap.get? b = none ∧ b < h₁.objs.size := by
    intro b hb
    rw [hsz]
    simp only [List.mem_cons, List.not_mem_nil, or_false] at hb
    have fr : ∀ k, s.heap.get? (s.heap.objs.size + k) = none := fun k => by
      cases q : s.heap.get? (s.heap.objs.size + k) with
      | none => rfl
      | some o => exact absurd (Heap.lt_size q) (Nat.not_lt.mpr (Nat.le_add_right _ _))
    rcases hb with rfl | rfl | rfl | rfl
    · exact ⟨fr 4, by omega⟩
    · exact ⟨fr 3, by omega⟩
    · exact ⟨fr 0, by omega⟩
    · exact ⟨fr 1, by omega⟩
  generalize [s.heap.objs.size + 4, s.heap.objs.size + 2, s.heap.objs.size + 3, s.heap.objs.size, s.heap.objs.size + 1, l1, l2] = fp at W hfp
  generalize [s.heap.objs.size + 4, s.heap.objs.size + 3, s.heap.objs.size, s.heap.objs.size + 1] = wr at W hwr
  clear hSt hi1' hi2' hTO hTI
  refine W.self 0 _ _ _ hst ?_
  refine wpAny_newObj_type ?_
  refine wpAny_newFunctionEnv hcell (by intro y hy; simp at hy) (fun h₂ hns hsb => ?_) hkind
  try dsimp only at hns hsb ⊢
  generalize hH : h₁.push { cls := .type "list", dict := none, data := .seq ([] : List Value).toArray } = H at hns hsb ⊢
  have hHs : H.objs.size = h₁.objs.size + 1 := by rw [← hH, Heap.size_push]
  have kH : Kp h₁ H := by rw [← hH]; exact Kp.push _
  have hacc : H.get? h₁.objs.size = some (lo [] 0) := by rw [← hH]; exact Heap.get?_push_size _ rfl
  have k₂ : Kp H h₂ := fun b o e => (hsb.2 b (Nat.ne_of_lt (Heap.lt_size e))).trans (Heap.get?_push_of_some _ e)
  have fr₁ : ∀ b, h₁.objs.size ≤ b → s.heap.get? b = none := fun b hb => by
    cases q : s.heap.get? b with
    | none => rfl
    | some o => exact absurd (Heap.lt_size (hk _ _ q)) (Nat.not_lt.mpr hb)
  have F₂ : Sx s.heap (compEnvC scope cl H.objs.size env).locals h₂ [x, y] [none, none] [(h₁.objs.size, isL [])] := by
    refine ⟨?_, Kp.tr (show Kp s.heap h₁ from hk) (kH.tr k₂), fr₁ _ (by show h₁.objs.size ≤ H.objs.size; omega), fun p hp => ?_, by simp⟩
    · rw [show lk [x, y] [none, none] = fun _ => none from funext (lk_none [x, y])]; exact hns
    · cases List.mem_singleton.mp hp
      exact ⟨⟨_, k₂ _ _ hacc, 0, rfl⟩, by show h₁.objs.size ≠ H.objs.size; omega, fr₁ _ (Nat.le_refl _)⟩
  have hst₂ : St 0 h₂ := W.frame _ _ _ hst fun b _ o e => k₂ _ _ (kH _ _ e)
  have CC : En (compEnvC scope cl H.objs.size env) [x, y] cgs := C.comp hsc _
  have hmin : min v1.toArray.size v2.toArray.size = n1.length := by simp; omega
  rw [hmin] at W
  have outk : ∀ b ∈ wr, b ∉ keys (compEnvC scope cl H.objs.size env).locals [(h₁.objs.size, isL ([] : List Value))] ∧ s.heap.get? b = none := fun b hb => by
    refine ⟨fun q => ?_, (hwr b hb).1⟩
    have hlt := (hwr b hb).2
    rcases List.mem_cons.mp q with e | e
    · have e' : b = H.objs.size := e
      omega
    · have e' : b = h₁.objs.size := by simpa using e
      omega
  have fpC : ∀ b ∈ fp, b ≠ H.objs.size ∧ b ≠ h₁.objs.size := fun b hb => by have := hfp b hb; exact ⟨by omega, by omega⟩
  generalize h₁.objs.size = acc at *
  have loop : codeAny (model prog w) A (.compLoop (.ListComp elt [⟨.Tuple [.Name x p1, .Name y p2] kt tp, iter, [], 0⟩] scope pos) 0 (.ref (s.heap.objs.size + 4)) (.ref acc) (compEnvC scope cl H.objs.size env))
      (compPost (model prog w) A E none Q (.ref acc) H.objs.size) { s with heap := h₂, toks := s.toks + ([] : List (Str × Value)).length } := by
    refine zip_loop hh CC W hi1 hi2 hlen hb hst₂ F₂ outk fpC (fun a b t u s' E' Q' B nw' F hq => helt _ a b t u s' E' Q' B nw' CC F hq) fun ys o1 o2 h₄ t₄ F₄ hy => ?_
    refine ⟨_, F₄.loc, fun h₅ hs₅ => ?_⟩
    have m := F₄.news (acc, isL ys) List.mem_cons_self
    obtain ⟨o, e, r⟩ := m.1
    exact h acc ys h₅ _ (fun b o e => (hs₅.2 b (fun q => by rw [q] at e; rw [show s.heap.get? H.objs.size = none from F₄.noL] at e; cases e)).trans (F₄.keep _ _ e)) m.2.2 ⟨o, (hs₅.2 _ m.2.1).trans e, r⟩ hy
  exact codeAny_compStart_list loop (W.self 0 _ _ _ hst₂ loop)
end

section
variable {prog : Program} {w : World} {A : Around} {E : Value → Shared → Prop} {s : Shared} {env : Env} {g : Heap} {L : Addr} {ns gs : List Str} {vs : List (Option Value)} {nw : Nw}
theorem sl_l {sH : Heap} {sG : Array GenState} {sD : Drawn} {sT : Nat} {sO : OsState} {value slice : PySem.Expr} {l : Addr} {xs : List Value} {vl vu : Value} {lo hi : Option Int} {Q : Value → Shared → Prop} (F : Sx g L sH ns vs nw) (hl : Hl sH l xs) (pl : IsPart vl lo) (pu : IsPart vu hi) (hz : xs.length ≤ 1000)
    (h : ∀ r h', Sx g L h' ns vs ((r, isL (slicePick xs.toArray lo hi none).toList) :: nw) → Q (.ref r) ⟨h', sG, sD, sT, sO⟩)
    (hs : subscripted slice false (.ref l) (.ref sH.objs.size) = operate [.ref sH.objs.size, .ref l] (getItem (.ref l) (.ref sH.objs.size)) := by with_unfolding_all rfl) :
    wpAny (model prog w) A (subscriptTail value slice (.ref l) (.ref sH.objs.size)) Q E ⟨sH.push { cls := .type "slice", data := .fields #[vl, vu, .none] }, sG, sD, sT, sO⟩ := by
  refine tail_any (Heap.IsList.typeIs (s := ⟨sH.push { cls := .type "slice", data := .fields #[vl, vu, .none] }, sG, sD, sT, sO⟩) (hl.is.push _)) slot_list_getitem.lookup
    (wpAny_getItem_list_slice (hl.is.push _) (Heap.IsSliceOf.new ..) pl pu .none (by simp) ?_ (by rw [List.size_toArray, sizeLine_eq]; omega)) hs
  have F1 := F.push { cls := .type "slice", data := .fields #[vl, vu, .none] } (P := fun _ => True) trivial rfl
  exact h _ _ (F1.drop.push _ ⟨0, by simp⟩ rfl)
theorem sl_none {Q : Value → Shared → Prop} (h : Q .none s) : wpAny (model prog w) A (evalPart none env) Q E s := wpAny_pure h
theorem sl_some {e : PySem.Expr} {Q : Value → Shared → Prop} (h : wpAny (model prog w) A (eval e env) Q E s) : wpAny (model prog w) A (evalPart (some e) env) Q E s := h
end
noncomputable def deft : List Int := [95, 34, 4, 69, 42]
noncomputable def toldL (ns : List Int) : List Int := ns.take 5 ++ deft.drop ns.length
theorem toldL_len (ns : List Int) : (toldL ns).length = 5 := by
  unfold toldL
  simp only [List.length_append, List.length_take, List.length_drop]
  have : deft.length = 5 := rfl
  omega

/-! the order's plain law: places in the word -/
theorem after_isSome {l : List Nat} {c : Nat} : (after l c).isSome = decide (c ∈ l) := by
  induction l with
  | nil => rfl
  | cons a r ih =>
    rw [after]
    by_cases e : a = c
    · rw [if_pos e]; simp [e]
    · rw [if_neg e, ih]; simp [Ne.symm e]
theorem after_idx {l : List Nat} {c : Nat} (h : c ∈ l) : after l c = some (l.drop (l.idxOf c + 1)) := by
  induction l with
  | nil => cases h
  | cons a r ih =>
    rw [after]
    by_cases e : a = c
    · rw [if_pos e, List.idxOf_cons]; simp [e]
    · rw [if_neg e, List.idxOf_cons]
      have : (a == c) = false := beq_eq_false_iff_ne.mpr e
      rw [this]
      exact ih ((List.mem_cons.mp h).resolve_left (Ne.symm e))
theorem mem_drop_idx {l : List Nat} {c : Nat} {n : Nat} (nd : l.Nodup) (h : c ∈ l) : c ∈ l.drop n ↔ n ≤ l.idxOf c := by
  induction l generalizing n with
  | nil => cases h
  | cons a r ih =>
    have nd' := List.nodup_cons.mp nd
    rw [List.idxOf_cons]
    by_cases e : a = c
    · subst e
      simp only [beq_self_eq_true, cond_true]
      cases n with
      | zero => simp
      | succ n =>
        simp only [List.drop_succ_cons]
        constructor
        · intro q; exact absurd (List.mem_of_mem_drop q) nd'.1
        · intro q; omega
    · have : (a == c) = false := beq_eq_false_iff_ne.mpr e
      rw [this]
      have hr := (List.mem_cons.mp h).resolve_left (Ne.symm e)
      cases n with
      | zero => simp [hr]
      | succ n =>
        simp only [List.drop_succ_cons, cond_false]
        rw [ih nd'.2 hr]; omega
theorem comes_idx {T : List Nat} (nd : T.Nodup) {i k : Nat} (hi : i ∈ T) (hk : k ∈ T) : comesP T i k = decide (T.idxOf i < T.idxOf k) := by
  unfold comesP
  rw [after_idx hi, Option.bind_some, after_isSome]
  rw [decide_eq_decide, mem_drop_idx nd hk]; omega
theorem after_map {f : Nat → Nat} (hf : ∀ a b, f a = f b → a = b) (l : List Nat) (c : Nat) : after (l.map f) (f c) = (after l c).map (List.map f) := by
  induction l with
  | nil => rfl
  | cons a r ih =>
    rw [List.map_cons, after, after]
    by_cases e : a = c
    · rw [if_pos e, if_pos (by rw [e])]; rfl
    · rw [if_neg e, if_neg (fun q => e (hf _ _ q)), ih]
theorem comes_map (T : List Nat) (i k : Nat) : comesP (T.map (97 + ·)) (97 + i) (97 + k) = comesP T i k := by
  have hf : ∀ a b : Nat, 97 + a = 97 + b → a = b := fun a b e => by omega
  unfold comesP
  rw [after_map (f := (97 + ·)) hf]
  cases after T i with
  | none => rfl
  | some r =>
    simp only [Option.map_some, Option.bind_some]
    rw [after_map (f := (97 + ·)) hf]
    cases after r k <;> rfl
structure Strict (m : Nat → Nat → Bool) : Prop where
  irr : ∀ i, i < 5 → m i i = false
  tr : ∀ i j k, i < 5 → j < 5 → k < 5 → m i j = true → m j k = true → m i k = true
section
variable {m : Nat → Nat → Bool} {K : Nat → Int} {T : List Nat}
theorem cnt_zero {p : List Nat} {k : Nat} : cnt m p k = 0 ↔ ∀ i, i < 5 → m i k = true → i ∈ p := by
  unfold cnt
  rw [List.length_eq_zero_iff, List.filter_eq_nil_iff]
  constructor
  · intro h i hi hm
    have := h i (List.mem_range.mpr hi)
    simpa [hm] using this
  · intro h i hi
    have hi' := List.mem_range.mp hi
    cases hm : m i k with
    | false => simp
    | true => simp [h i hi' hm]
theorem cnt_below (S : Strict m) {i k : Nat} (hi : i < 5) (hk : k < 5) (h : m i k = true) : cnt m [] i < cnt m [] k := by
  unfold cnt
  refine filt_lt (y := i) (fun x hx hp => ?_) (List.mem_range.mpr hi) (by simp [h]) (by simp [S.irr i hi])
  have hx5 := List.mem_range.mp hx
  simp only [List.contains_nil, Bool.not_false, Bool.true_and] at hp ⊢
  exact S.tr x i k hx5 hi hk hp h
/-- a least one of the lesser rows that are not off -/
theorem least_pred (S : Strict m) (p : List Nat) : ∀ (n k : Nat), cnt m [] k = n → k < 5 → cnt m p k ≠ 0 → ∃ j, j < 5 ∧ j ∉ p ∧ m j k = true ∧ cnt m p j = 0 := by
  intro n
  induction n using Nat.strongRecOn with
  | ind n ih =>
    intro k hn hk hc
    have : ∃ i, i < 5 ∧ m i k = true ∧ i ∉ p := by
      refine Classical.byContradiction fun q => hc (cnt_zero.mpr fun i hi hm => Classical.byContradiction fun z => q ⟨i, hi, hm, z⟩)
    obtain ⟨i, hi, hm, hip⟩ := this
    by_cases h0 : cnt m p i = 0
    · exact ⟨i, hi, hip, hm, h0⟩
    · obtain ⟨j, hj, hjp, hjm, hj0⟩ := ih _ (hn ▸ cnt_below S hi hk hm) i rfl hi h0
      exact ⟨j, hj, hjp, S.tr j i k hj hi hk hjm hm, hj0⟩
theorem greedy_all {le : Nat → Nat → Prop} (S : Strict m) (G : Greedy m le T) (D : ∀ k, k < 5 → k ∉ T → cnt m T k ≠ 0) : ∀ k, k < 5 → k ∈ T := by
  intro k hk
  refine Classical.byContradiction fun q => ?_
  obtain ⟨j, hj, hjT, _, h0⟩ := least_pred S T _ k rfl hk (D k hk q)
  exact D j hj hjT h0
theorem split_at {i : Nat} (h : i ∈ T) : T = T.take (T.idxOf i) ++ i :: T.drop (T.idxOf i + 1) := by
  have hl : T.idxOf i < T.length := List.idxOf_lt_length_of_mem h
  conv => lhs; rw [← List.take_append_drop (T.idxOf i) T]
  rw [List.drop_eq_getElem_cons hl]
  congr 2
  exact List.getElem_idxOf hl
theorem take_mem (nd : T.Nodup) {i k : Nat} (hk : k ∈ T) : k ∈ T.take (T.idxOf i) ↔ T.idxOf k < T.idxOf i := by
  constructor
  · intro h
    have hd : k ∉ T.drop (T.idxOf i) := fun q => by
      have nd' := nd
      rw [← List.take_append_drop (T.idxOf i) T] at nd'
      exact (List.nodup_append.mp nd').2.2 k h k q rfl
    rw [mem_drop_idx nd hk] at hd; omega
  · intro h
    rw [← List.take_append_drop (T.idxOf i) T] at hk
    rcases List.mem_append.mp hk with q | q
    · exact q
    · have hk' : k ∈ T := List.mem_of_mem_drop q
      rw [mem_drop_idx nd hk'] at q; omega
theorem greedy_ext {le : Nat → Nat → Prop} (G : Greedy m le T) (all : ∀ k, k < 5 → k ∈ T) {i k : Nat} (hi : i < 5) (hk : k < 5) (h : m i k = true) : T.idxOf i < T.idxOf k := by
  have := cnt_zero.mp (G.free _ _ _ (split_at (all k hk))) i hi h
  exact (take_mem G.nd (all i hi)).mp this
theorem greedy_told (S : Strict m) (G : Greedy m (fun x k => lexlt (K k) k (K x) x = false) T) (all : ∀ k, k < 5 → k ∈ T) {i k : Nat} (hi : i < 5) (hk : k < 5) (hlt : lexlt (K k) k (K i) i = true) :
    (T.idxOf i < T.idxOf k) ↔ m i k = true ∨ ∃ j, j < 5 ∧ m j k = true ∧ lexlt (K i) i (K j) j = true ∧ T.idxOf i < T.idxOf j := by
  constructor
  · intro h
    have hkp : k ∉ T.take (T.idxOf i) := fun q => by
      have := (take_mem G.nd (all k hk)).mp q; omega
    have hc : cnt m (T.take (T.idxOf i)) k ≠ 0 := fun q => by
      have := G.least _ _ _ (split_at (all i hi)) k hk hkp q
      rw [hlt] at this; cases this
    obtain ⟨j, hj, hjp, hjm, hj0⟩ := least_pred S _ _ k rfl hk hc
    by_cases e : j = i
    · left; rw [← e]; exact hjm
    · right
      have h1 := G.least _ _ _ (split_at (all i hi)) j hj hjp hj0
      refine ⟨j, hj, hjm, ?_, ?_⟩
      · rw [← Bool.not_eq_true, lex_iff] at h1
        rw [lex_iff]; omega
      · have h2 : ¬ T.idxOf j < T.idxOf i := fun q => hjp ((take_mem G.nd (all j hj)).mpr q)
        have h3 : T.idxOf j ≠ T.idxOf i := fun q => e (by
          have a := List.getElem_idxOf (List.idxOf_lt_length_of_mem (all j hj))
          have b := List.getElem_idxOf (List.idxOf_lt_length_of_mem (all i hi))
          simp only [q] at a
          exact a.symm.trans b)
        omega
  · rintro (h | ⟨j, hj, hjm, _, h⟩)
    · exact greedy_ext G all hi hk h
    · have := greedy_ext G all hj hk hjm; omega
theorem told_plain (S : Strict m) (G : Greedy m (fun x k => lexlt (K k) k (K x) x = false) T) (all : ∀ k, k < 5 → k ∈ T) : ToldP (T.map (97 + ·)) m K := by
  intro i k hi hk hlt
  rw [comes_map, comes_idx G.nd (all i hi) (all k hk)]
  have e : dueF (T.map (97 + ·)) m K i k 5 = true ↔ (m i k = true ∨ ∃ j, j < 5 ∧ m j k = true ∧ lexlt (K i) i (K j) j = true ∧ T.idxOf i < T.idxOf j) := by
    unfold dueF
    rw [Bool.or_eq_true, List.any_eq_true]
    constructor
    · rintro (h | ⟨j, hj, h⟩)
      · exact .inl h
      · right
        have hj' := List.mem_range.mp hj
        rw [comes_map, comes_idx G.nd (all i hi) (all j hj')] at h
        simp only [Bool.and_eq_true, decide_eq_true_eq] at h
        exact ⟨j, hj', h.1.1, h.1.2, h.2⟩
    · rintro (h | ⟨j, hj, h1, h2, h3⟩)
      · exact .inl h
      · right
        refine ⟨j, List.mem_range.mpr hj, ?_⟩
        rw [comes_map, comes_idx G.nd (all i hi) (all j hj)]
        simp [h1, h2, h3]
  rw [Bool.eq_iff_iff, e, decide_eq_true_eq]
  exact greedy_told S G all hi hk hlt
theorem perm_five (nd : T.Nodup) (lt : ∀ i ∈ T, i < 5) (all : ∀ k, k < 5 → k ∈ T) : T.Perm [0, 1, 2, 3, 4] := by
  refine (List.perm_ext_iff_of_nodup nd (by decide)).mpr fun a => ?_
  constructor
  · intro h; exact pool_mem (lt a h)
  · intro h
    refine all a ?_
    simp only [List.mem_cons, List.not_mem_nil, or_false] at h
    omega
end

/-! whole or parted; leads -/
noncomputable def wIn (l2 : List Nat) (m : Nat → Nat → Bool) (p : Nat → Nat) (n a : Nat) : Bool := comesP l2 (97 + p a) (97 + p n) == m (p a) (p n)
noncomputable def pJ (m : Nat → Nat → Bool) (p : Nat → Nat) (n a c : Nat) : Bool := m (p a) (p n) && !m (p a) (p c) && !m (p c) (p n)
noncomputable def wAll (l2 : List Nat) (m : Nat → Nat → Bool) (p : Nat → Nat) (N : Nat) : Bool := (List.range N).all fun n => (List.range n).all fun a => wIn l2 m p n a
noncomputable def pAny (m : Nat → Nat → Bool) (p : Nat → Nat) (N : Nat) : Bool := (List.range N).any fun n => (List.range n).any fun a => (List.range (n - (a + 1))).any fun c => pJ m p n a (a + 1 + c)
section
variable {m : Nat → Nat → Bool} {K K2 : Nat → Int} {T T2 : List Nat}
theorem whole_parted (S : Strict m) (nd : T.Nodup) (lt : ∀ i ∈ T, i < 5) (hl : T.length = 5) (all : ∀ k, k < 5 → k ∈ T) (hK2 : ∀ k, k < 5 → K2 k = -(T.idxOf k : Int))
    (G2 : Greedy m (fun x k => lexlt (K2 k) k (K2 x) x = false) T2) (all2 : ∀ k, k < 5 → k ∈ T2) : wAll (T2.map (97 + ·)) m (fun n => T.getD n 0) 5 = !pAny m (fun n => T.getD n 0) 5 := by
  have hp : ∀ n, n < 5 → T.getD n 0 < 5 ∧ T.idxOf (T.getD n 0) = n := fun n hn => by
    have e : T.getD n 0 = T[n]'(by omega) := by rw [List.getD_eq_getElem?_getD, List.getElem?_eq_getElem (by omega)]; rfl
    rw [e]
    exact ⟨lt _ (List.getElem_mem _), nd.idxOf_getElem n (by omega)⟩
  have idx2 : ∀ i j, i < 5 → j < 5 → T2.idxOf i = T2.idxOf j → i = j := fun i j hi hj q => by
    have a := List.getElem_idxOf (List.idxOf_lt_length_of_mem (all2 i hi))
    have b := List.getElem_idxOf (List.idxOf_lt_length_of_mem (all2 j hj))
    simp only [q] at a
    exact a.symm.trans b
  generalize hpp : (fun n => T.getD n 0) = p
  have hp' : ∀ n, n < 5 → p n < 5 ∧ T.idxOf (p n) = n := by rw [← hpp]; exact hp
  clear hp hpp
  have ne : ∀ a n, a < 5 → n < 5 → a ≠ n → p a ≠ p n := fun a n ha hn h q => h (by rw [← (hp' a ha).2, ← (hp' n hn).2, q])
  have cm : ∀ a n, a < 5 → n < 5 → comesP (T2.map (97 + ·)) (97 + p a) (97 + p n) = decide (T2.idxOf (p a) < T2.idxOf (p n)) := fun a n ha hn => by
    rw [comes_map, comes_idx G2.nd (all2 _ (hp' a ha).1) (all2 _ (hp' n hn).1)]
  have tot : ∀ a n, a < 5 → n < 5 → a ≠ n → ¬ T2.idxOf (p a) < T2.idxOf (p n) → T2.idxOf (p n) < T2.idxOf (p a) := fun a n ha hn h q => by
    have : T2.idxOf (p a) ≠ T2.idxOf (p n) := fun z => ne a n ha hn h (idx2 _ _ (hp' a ha).1 (hp' n hn).1 z)
    omega
  rw [Bool.eq_iff_iff, Bool.not_eq_true', ← Bool.not_eq_true]
  unfold wAll pAny
  simp only [List.all_eq_true, List.any_eq_true, List.mem_range, not_exists, not_and]
  constructor
  · intro W n hn a ha c hc hj
    unfold pJ at hj
    simp only [Bool.and_eq_true, Bool.not_eq_true'] at hj
    obtain ⟨⟨h1, h2⟩, h3⟩ := hj
    have hc5 : a + 1 + c < n := by omega
    have w1 := W (a + 1 + c) (by omega) a (by omega)
    have w2 := W n hn (a + 1 + c) hc5
    unfold wIn at w1 w2
    rw [beq_iff_eq, cm _ _ (by omega) (by omega)] at w1 w2
    rw [h2, decide_eq_false_iff_not] at w1
    rw [h3, decide_eq_false_iff_not] at w2
    have t1 := tot _ _ (by omega) (by omega) (by omega) w1
    have t2 := tot _ _ (by omega) (by omega) (by omega) w2
    have t3 := greedy_ext G2 all2 (hp' a (by omega)).1 (hp' n hn).1 h1
    omega
  · intro P n hn a ha
    unfold wIn
    rw [beq_iff_eq, cm a n (by omega) hn]
    cases hm : m (p a) (p n) with
    | true => exact decide_eq_true (greedy_ext G2 all2 (hp' a (by omega)).1 (hp' n hn).1 hm)
    | false =>
      rw [decide_eq_false_iff_not]
      intro q
      have ha5 : a < 5 := by omega
      have hlt : lexlt (K2 (p n)) (p n) (K2 (p a)) (p a) = true := by
        rw [lex_iff, hK2 _ (hp' n hn).1, hK2 _ (hp' a ha5).1, (hp' n hn).2, (hp' a ha5).2]; omega
      rcases (greedy_told S G2 all2 (hp' a ha5).1 (hp' n hn).1 hlt).mp q with h | ⟨j, hj, hjm, hjl, hjt⟩
      · rw [hm] at h; cases h
      · have hb : T.idxOf j < 5 := by rw [← hl]; exact List.idxOf_lt_length_of_mem (all j hj)
        have hpj : p (T.idxOf j) = j := by
          have a1 := (hp' _ hb).2
          have a2 := List.getElem_idxOf (List.idxOf_lt_length_of_mem (all j hj))
          have a3 := List.getElem_idxOf (List.idxOf_lt_length_of_mem (all _ (hp' _ hb).1))
          simp only [a1] at a3
          exact a3.symm.trans a2
        have hba : T.idxOf j < a := by
          rw [lex_iff, hK2 _ (hp' a ha5).1, hK2 j hj, (hp' a ha5).2] at hjl
          rcases hjl with h | ⟨h, _⟩
          · omega
          · have : T.idxOf j = a := by omega
            rw [this] at hpj
            rw [← hpj] at hjt; omega
        have hP := P n hn (T.idxOf j) (by omega) (a - (T.idxOf j + 1)) (by omega)
        rw [show T.idxOf j + 1 + (a - (T.idxOf j + 1)) = a by omega] at hP
        unfold pJ at hP
        rw [hpj, hjm, hm] at hP
        have hja : m j (p a) = true := by
          cases z : m j (p a) with
          | true => rfl
          | false => rw [z] at hP; simp at hP
        have := greedy_ext G2 all2 hj (hp' a ha5).1 hja
        omega
end
noncomputable def leftB (x y : List Nat) : Bool := (List.zipWith (· - ·) (colsOf x) (colsOf y)).all fun d => decide (d < 0)
noncomputable def rowB (x : List Nat) : Ws := wsOf (x ++ [120, 32])
theorem leads_all : ((List.range 31).all fun i => (List.range 31).all fun k => lessP (rowB (leadL (i + 1))) (rowB (leadL (k + 1))) == leftB (leadL (i + 1)) (leadL (k + 1))) = true := by decide +kernel
theorem leads_small : ((List.range 31).all fun i => Small (rowB (leadL (i + 1))) && (leadL (i + 1)).all (fun c => decide (c < 128)) && decide ((leadL (i + 1)).length ≤ 30)) = true := by decide +kernel

/-! the law, statement by statement -/
noncomputable def lawB : List Stmt := stmtsOf (fdAt 167).body
noncomputable def lawSt (k : Nat) : Stmt := (lawB[k]?).getD (.Pass default)
noncomputable abbrev lns : List Str := ["script", "leads", "left", "ahead", "keys", "late", "last", "places", "whole", "parted", "n", "m", "j"]
noncomputable abbrev lgs : List Str := ["len", "range", "_law_order", "_law_told", "_law_comes"]
noncomputable def CellIs (g : Heap) (c : Addr) (v : Value) : Prop := ∃ o, g.get? c = some o ∧ isC (some v) o
theorem CellIs.kp {g h : Heap} {c : Addr} {v : Value} (x : CellIs g c v) (k : Kp g h) : CellIs h c v := let ⟨o, e, r⟩ := x; ⟨o, k _ _ e, r⟩
theorem Sx.fza {g h : Heap} {L : Addr} {ns : List Str} {vs : List (Option Value)} (pre keep : Nw) (F : Sx g L h ns vs (pre ++ keep)) :
    ∃ g', Kp g g' ∧ Sx g' L h ns vs keep ∧ ∀ q ∈ pre, ∃ o, g'.get? q.1 = some o ∧ q.2 o := by
  have nd := F.nd
  rw [List.map_append] at nd
  have nd' := List.nodup_append.mp nd
  have F1 := F.pick (nw' := keep) (fun p hp => List.mem_append.mpr (.inr hp)) nd'.2.1
  refine ⟨_, F1.kbase, F1.rebase, fun q hq => ?_⟩
  obtain ⟨⟨o, e, hp⟩, n, _⟩ := F.news q (List.mem_append.mpr (.inl hq))
  refine ⟨o, ?_, hp⟩
  rw [hides_get]
  · exact e
  · intro z
    rcases List.mem_cons.mp z with z | z
    · exact n z
    · exact nd'.2.2 q.1 (List.mem_map_of_mem (f := fun x : Addr × (Obj → Prop) => x.1) hq) q.1 z rfl
noncomputable def Each (P : Heap → Nat → Value → Prop) (B : Heap) (i : Nat) (ys : List Value) : Prop := ys.length = i ∧ ∀ j, j < i → ∃ y, ys[j]? = some y ∧ P B j y
theorem Each.nil {P : Heap → Nat → Value → Prop} {B : Heap} : Each P B 0 [] := ⟨rfl, fun _ h => absurd h (Nat.not_lt_zero _)⟩
theorem Each.kp {P : Heap → Nat → Value → Prop} (mono : ∀ B B' j y, Kp B B' → P B j y → P B' j y) {B B' : Heap} {i : Nat} {ys : List Value} (x : Each P B i ys) (k : Kp B B') : Each P B' i ys :=
  ⟨x.1, fun j hj => let ⟨y, e, p⟩ := x.2 j hj; ⟨y, e, mono _ _ _ _ k p⟩⟩
theorem Each.snoc {P : Heap → Nat → Value → Prop} {B : Heap} {i : Nat} {ys : List Value} {y : Value} (x : Each P B i ys) (p : P B i y) : Each P B (i + 1) (ys ++ [y]) := by
  obtain ⟨hl, hx⟩ := x
  refine ⟨by simp [hl], fun j hj => ?_⟩
  by_cases e : j < i
  · obtain ⟨z, ez, pz⟩ := hx j e
    exact ⟨z, by rw [List.getElem?_append_left (by first | with_reducible assumption | with_reducible exact lt5 (by assumption) | omega)]; exact ez, pz⟩
  · have : j = i := by omega
    subst this
    exact ⟨y, by rw [← hl]; simp, p⟩
section
variable {M : Model} {A : Around} {E : Value → Shared → Prop} {s : Shared} {env : Env}
theorem s_asg {st : Stmt} {t v p} {Q : Flow → Shared → Prop} (e : st = .Assign t v p) (h : wpAny M A (exec (.Assign t v p) env) Q E s) : wpAny M A (exec st env) Q E s := by rw [e]; exact h
theorem s_if {st : Stmt} {t v o p} {Q : Flow → Shared → Prop} (e : st = .If t v o p) (h : wpAny M A (exec (.If t v o p) env) Q E s) : wpAny M A (exec st env) Q E s := by rw [e]; exact h
theorem s_for {st : Stmt} {t v b o p} {Q : Flow → Shared → Prop} (e : st = .For t v b o p) (h : wpAny M A (exec (.For t v b o p) env) Q E s) : wpAny M A (exec st env) Q E s := by rw [e]; exact h
theorem s_ret {st : Stmt} {v p} {Q : Flow → Shared → Prop} (e : st = .Return v p) (h : wpAny M A (exec (.Return v p) env) Q E s) : wpAny M A (exec st env) Q E s := by rw [e]; exact h
end
theorem ints_drop {vs : List Value} {ns : List Int} (h : IntsAre vs ns) (k : Nat) : IntsAre (vs.drop k) (ns.drop k) := by
  induction h generalizing k with
  | nil => simpa using IntsAre.nil
  | cons n t h ih =>
    cases k with
    | zero => exact IntsAre.cons _ _ h
    | succ k => exact ih k
theorem ints_take {vs : List Value} {ns : List Int} (h : IntsAre vs ns) (k : Nat) : IntsAre (vs.take k) (ns.take k) := by
  induction h generalizing k with
  | nil => simpa using IntsAre.nil
  | cons n t h ih =>
    cases k with
    | zero => exact IntsAre.nil
    | succ k => exact IntsAre.cons _ _ (ih k)
section
variable {prog : Program} {w : World} {A : Around} {E : Value → Shared → Prop} {s : Shared} {env : Env} {g : Heap} {ns gs : List Str}
theorem cws {np pos : Pos} {e : PySem.Expr} {rest : List PySem.Expr} {Q : Value → Shared → Prop} (k : Kp g s.heap) (C : En env ns gs) (Gl : GlobAt g "Whitespace" (.ref 125)) (G : Gk w g)
    (h : wpAny (model prog w) A (spliced (backTo pos (starEach (e :: rest) env))) (fun vs s₁ => Kp g s₁.heap ∧ codeAny (model prog w) A (.call (.ref 125) ⟨vs, []⟩) (fun r s' => match r with | .ok (.ret v) => Q v s' | .ok _ => False | .error e => E e s') s₁) E s)
    (m : ("Whitespace" : Str) ∈ gs := by walk_at "mem") (he : starEach (e :: rest) env = (false, eval e env) :: starEach rest env := by rfl) (hplain : (backTo pos (starEach rest env)).any (·.1) = false := by rfl) :
    wpAny (model prog w) A (eval (.Call (.Name "Whitespace" np) (e :: rest) [] pos) env) Q E s :=
  Call_ (gl k C Gl (callWith_K (first := []) (K := KK w.params) G.K (by with_unfolding_all rfl) (wpAny_mono h (fun vs s₁ h₁ => ⟨G.K.keeps h₁.1, wpAny_call h₁.2⟩) fun _ _ y => y) he hplain) m)
end
/-! comprehensions with one loop name, their items told by a word -/
section
variable {prog : Program} {w : World} {A : Around} {E : Value → Shared → Prop} {env : Env} {g : Heap} {ns gs : List Str} {vs : List (Option Value)} {nw : Nw} {sH : Heap} {sG : Array GenState} {sD : Drawn} {sT : Nat} {sO : OsState}
  {n : Nat} {S : Nat → Obj → Prop} {val : Nat → Value → Prop} {ok : Heap → Prop} {elt iter : PySem.Expr} {x : Str} {px : Pos} {scope : Scope} {cl : List (Str × Addr)} {pos : Pos} {cgs : List Str} {P : Heap → Nat → Value → Prop}
/-- what a turn must show -/
noncomputable def Turn (prog : Program) (w : World) (A : Around) (env : Env) (g : Heap) (nw : Nw) (sG : Array GenState) (sD : Drawn) (sO : OsState) (n : Nat) (val : Nat → Value → Prop) (elt : PySem.Expr) (x : Str) (scope : Scope) (cl : List (Str × Addr)) (cgs : List Str) (P : Heap → Nat → Value → Prop) : Prop :=
  ∀ D i B v h t nw' (Q' : Value → Shared → Prop) (E' : Value → Shared → Prop), i < n → val i v → Kp g B → En (compEnvC scope cl D env) [x] cgs → (∀ p ∈ nw, p ∈ nw') → Sx B (compEnvC scope cl D env).locals h [x] [some v] nw' →
    (∀ h4 t4 B4 y, Kp B B4 → Sx B4 (compEnvC scope cl D env).locals h4 [x] [some v] nw' → P B4 i y → Q' y ⟨h4, sG, sD, t4, sO⟩) → wpAny (model prog w) A (eval elt (compEnvC scope cl D env)) Q' E' ⟨h, sG, sD, t, sO⟩
theorem lc_each {it : Addr} {RR : Value → Addr → Result → Shared → Prop} (G : Gen prog w n S val ok) (mono : ∀ B B' j y, Kp B B' → P B j y → P B' j y) (hn : n ≤ 1000) (hh : A.handled = none) (C : En env ns gs) (hsc : scOk scope [x] cgs = true) (hcell : ∀ y ∈ scope.names, y.2 ≠ .cell)
    (okg : ∀ h, Kp g h → ok h) (F : Sx g env.locals sH ns vs ((it, S 0) :: nw)) (step : Turn prog w A env g nw sG sD sO n val elt x scope cl cgs P)
    (fin : ∀ D acc oL B ys o h t, sH.get? env.locals = some oL → Each P B n ys → Kp g B → Sx B D h [x] [o] ((acc, isL ys) :: (nw ++ [(env.locals, isO oL)])) → RR (.ref acc) D (.ok .next) ⟨h, sG, sD, t, sO⟩) :
    wpAny (model prog w) A (newList []) (fun acc s₃ => wpAny (model prog w) A (newFunctionEnv scope env.globals cl [] env.qual none .none (some env)) (fun cenv s₄ =>
      codeAny (model prog w) A (.compStart (.ListComp elt [⟨.Name x px, iter, [], 0⟩] scope pos) 0 (.ref it) acc { cenv with scope := relabel scope env }) (RR acc cenv.locals) s₄) E s₃) E ⟨sH, sG, sD, sT, sO⟩ := by
  refine comp_core G (fun i B ys => Each P B i ys) hn hh C hsc hcell okg F Each.nil ?_ fin
  intro D acc oL i B ys v h t E' hi hJ hv hB C1 F2
  refine opq fun Q1 E1 hQ1 _ => ?_
  refine no_tests <| hQ1 _ _ ⟨_, _, B, rfl, Kp.rf, F2, ?_⟩
  rw [if_pos rfl]
  refine opq fun Q2 E2 hQ2 _ => ?_
  exact step D i B v h t _ Q2 E2 hi hv hB C1 (fun p hp => List.mem_cons_of_mem _ (List.mem_cons_of_mem _ (List.mem_append.mpr (.inl hp)))) F2 fun h4 t4 B4 y kB F4 hy => hQ2 _ _ ⟨_, _, B4, rfl, kB, F4, (hJ.kp mono kB).snoc hy⟩
theorem asg_each {y : Str} {py spos : Pos} {vs' : Addr → List (Option Value)} {Q : Flow → Shared → Prop}
    (hsw : swapsWith (.ListComp elt [⟨.Name x px, iter, [], 0⟩] scope pos) (some (.Name y py)) spos.line env = pure true)
    (hclos : closureFor scope env = pure cl) (hkind : scope.kind = .function) (hnames : ∀ x ∈ scope.names, x.2 = .local → scope.names.lookup x.1 = some .local)
    (G : Gen prog w n S val ok) (mono : ∀ B B' j y, Kp B B' → P B j y → P B' j y) (hn : n ≤ 1000) (hh : A.handled = none) (C : En env ns gs) (hsc : scOk scope [x] cgs = true) (hcell : ∀ y ∈ scope.names, y.2 ≠ .cell)
    (okg : ∀ h, Kp g h → ok h) (put : ∀ a, Put ns vs y (.ref a) (vs' a))
    (hit : ∀ Q' : Value → Shared → Prop, (∀ it h t, Sx g env.locals h ns vs ((it, S 0) :: nw) → Q' (.ref it) ⟨h, sG, sD, t, sO⟩) → wpAny (model prog w) A (eval iter env) (fun x s₁ => wpAny (model prog w) A (pyIter x) Q' E s₁) E ⟨sH, sG, sD, sT, sO⟩)
    (step : Turn prog w A env g nw sG sD sO n val elt x scope cl cgs P)
    (kont : ∀ g' acc ys h t, Kp g g' → Sx g' env.locals h ns (vs' acc) nw → Hl g' acc ys → Each P g' n ys → Q .next ⟨h, sG, sD, t, sO⟩) (hs : ∀ x, foldedSetIterable iter env x = pure x := by intro _; rfl) :
    wpAny (model prog w) A (exec (.Assign [.Name y py] (.ListComp elt [⟨.Name x px, iter, [], 0⟩] scope pos) spos) env) Q E ⟨sH, sG, sD, sT, sO⟩ := by
  refine lc_asg hsw hclos hkind hnames (hit _ fun it h1 t1 F1 => ?_) hs
  refine lc_each (RR := fun acc D => compPost (model prog w) _ _ (some _) _ acc D) G mono hn hh C hsc hcell okg F1 step ?_
  intro D acc oL B ys o h t eL hJ hB F2
  refine post_some0 C F1 eL F2 (put acc) fun h3 t3 F3 => ?_
  obtain ⟨g', kg, ha, F4⟩ := F3.fz
  exact kont g' acc ys h3 t3 (hB.tr kg) F4 ha (hJ.kp mono kg)
theorem val_each {Q : Value → Shared → Prop}
    (hclos : closureFor scope env = pure cl) (hkind : scope.kind = .function) (hnames : ∀ x ∈ scope.names, x.2 = .local → scope.names.lookup x.1 = some .local)
    (G : Gen prog w n S val ok) (mono : ∀ B B' j y, Kp B B' → P B j y → P B' j y) (hn : n ≤ 1000) (hh : A.handled = none) (C : En env ns gs) (hsc : scOk scope [x] cgs = true) (hcell : ∀ y ∈ scope.names, y.2 ≠ .cell)
    (okg : ∀ h, Kp g h → ok h)
    (hit : ∀ Q' : Value → Shared → Prop, (∀ it h t, Sx g env.locals h ns vs ((it, S 0) :: nw) → Q' (.ref it) ⟨h, sG, sD, t, sO⟩) → wpAny (model prog w) A (eval iter env) (fun x s₁ => wpAny (model prog w) A (pyIter x) Q' E s₁) E ⟨sH, sG, sD, sT, sO⟩)
    (step : Turn prog w A env g nw sG sD sO n val elt x scope cl cgs P)
    (kont : ∀ B acc ys h t, Kp g B → Sx B env.locals h ns vs ((acc, isL ys) :: nw) → Each P B n ys → Q (.ref acc) ⟨h, sG, sD, t, sO⟩) (hs : ∀ x, foldedSetIterable iter env x = pure x := by intro _; rfl) :
    wpAny (model prog w) A (eval (.ListComp elt [⟨.Name x px, iter, [], 0⟩] scope pos) env) Q E ⟨sH, sG, sD, sT, sO⟩ := by
  refine lc_open hclos hkind hnames (hit _ fun it h1 t1 F1 => ?_) hs
  refine lc_each (RR := fun acc D => compPost (model prog w) _ _ none _ acc D) G mono hn hh C hsc hcell okg F1 step ?_
  intro D acc oL B ys o h t eL hJ hB F2
  exact post_none0 F1 eL F2 fun h3 t3 F3 => kont B acc ys h3 t3 hB F3 hJ
end
section
variable {prog : Program} {w : World} {A : Around} {E : Value → Shared → Prop} {s : Shared} {env : Env} {g : Heap} {rv : List (Option Value)} {keep : Nw} {ct cc cr cf : Addr}
theorem sl_i {sH : Heap} {sG : Array GenState} {sD : Drawn} {sT : Nat} {sO : OsState} {L : Addr} {ns : List Str} {vs : List (Option Value)} {nw : Nw} {value slice : PySem.Expr} {l : Addr} {xs : List Value} {vl vu : Value} {lo hi : Option Int} {Q : Value → Shared → Prop} (F : Sx g L sH ns vs nw) (hl : sH.IsList l xs.toArray) (pl : IsPart vl lo) (pu : IsPart vu hi) (hz : xs.length ≤ 1000)
    (h : ∀ r h', Sx g L h' ns vs ((r, isL (slicePick xs.toArray lo hi none).toList) :: nw) → Q (.ref r) ⟨h', sG, sD, sT, sO⟩)
    (hs : subscripted slice false (.ref l) (.ref sH.objs.size) = operate [.ref sH.objs.size, .ref l] (getItem (.ref l) (.ref sH.objs.size)) := by with_unfolding_all rfl) :
    wpAny (model prog w) A (subscriptTail value slice (.ref l) (.ref sH.objs.size)) Q E ⟨sH.push { cls := .type "slice", data := .fields #[vl, vu, .none] }, sG, sD, sT, sO⟩ := by
  refine tail_any (Heap.IsList.typeIs (s := ⟨sH.push { cls := .type "slice", data := .fields #[vl, vu, .none] }, sG, sD, sT, sO⟩) (hl.push _)) slot_list_getitem.lookup
    (wpAny_getItem_list_slice (hl.push _) (Heap.IsSliceOf.new ..) pl pu .none (by simp) ?_ (by rw [List.size_toArray, sizeLine_eq]; omega)) hs
  have F1 := F.push { cls := .type "slice", data := .fields #[vl, vu, .none] } (P := fun _ => True) trivial rfl
  exact h _ _ (F1.drop.push _ ⟨0, by simp⟩ rfl)
theorem len_i {sH : Heap} {sG : Array GenState} {sD : Drawn} {sT : Nat} {sO : OsState} {a : Addr} {vs : List Value} {Q : Value → Shared → Prop} (hl : sH.IsList a vs.toArray) (hb : vs.length ≤ 16777216) (h : ∀ t u, Q (.int vs.length t) ⟨sH, sG, sD, u, sO⟩) : wpAny (model prog w) A (call (.builtin "len") [.ref a]) Q E ⟨sH, sG, sD, sT, sO⟩ :=
  len_list hl (by rw [List.size_toArray]; omega) (by rw [List.size_toArray]; exact h _ _)
theorem law_s0 {sl : Addr} {vs : List Value} {ns : List Int} (C : En env lns lgs) (Kt : Ce env "told" ct) (G : Gk w g) (F : Sx g env.locals s.heap lns (some (.ref sl) :: rv) ((ct, isC none) :: keep)) (hl : g.IsList sl vs.toArray) (hi : IntsAre vs ns) (hn : ns.length ≤ 63)
    {Q : Flow → Shared → Prop} (kont : ∀ g' h t lt tv, Kp g g' → Sx g' env.locals h lns (some (.ref sl) :: rv) keep → CellIs g' ct (.ref lt) → Hl g' lt tv → IntsAre tv (toldL ns) → Q .next { s with heap := h, toks := t }) :
    wpAny (model prog w) A (exec (lawSt 0) env) Q E s := by
  have hlen := ints_len hi
  have e5 : slicePick vs.toArray none (some 5) none = (vs.take 5).toArray := slicePick_upto' vs.toArray 5
  refine s_asg (by with_unfolding_all rfl) ?_
  refine wpAny_Assign_Name <| wpAny_BinOp <| Subscript_ <| ld F C (by with_reducible repeat (first | exact At.hd | apply At.tl)) <| wpAny_Slice <| sl_none <| sl_some <| k_int fun _ _ => sl_none <| ?_
  refine sl_i F (hl.at fun o e => F.keep _ o e) .none (.int _ _) (by first | with_reducible assumption | with_reducible exact lt5 (by assumption) | omega) fun r1 h1 F1 => ?_
  refine Subscript_ <| List_ <| args_cons <| k_int fun _ _ => args_cons <| k_int fun _ _ => args_cons <| k_int fun _ _ => args_cons <| k_int fun _ _ => args_cons <| k_int fun _ _ => args_nil <| n_list F1 (by simp) fun r2 h2 F2 => ?_
  refine wpAny_Slice <| sl_some <| cblt F2.keep C (g_len G) <| args_cons <| ld F2 C (by with_reducible repeat (first | exact At.hd | apply At.tl)) <| args_nil <| len_i (hl.at fun o e => F2.keep _ o e) (by first | with_reducible assumption | with_reducible exact lt5 (by assumption) | omega) fun _ _ => sl_none <| sl_none ?_
  refine sl_l F2 (F2.isl (a := r2)) (.int _ _) .none (by simp) fun r3 h3 F3 => ?_
  refine l_add F3 (F3.isl (a := r1)) (F3.isl (a := r3)) ?_ fun r4 h4 F4 => ?_
  · rw [e5, slicePick_from' _ vs.length]; simp; omega
  refine stc (v₀ := none) F4 Kt (fun h5 F5 => ?_) (by walk_at "ch")
  try dsimp only
  obtain ⟨g', kg, F6, fr⟩ := Sx.fza (keep := keep) (pre := [_, _, _, _, _]) F5
  refine kont g' h5 _ r4 _ kg F6 (fr (ct, isC (some (.ref r4))) (by walk_at "mem")) (fr (r4, _) List.mem_cons_self) ?_
  rw [e5, slicePick_from' _ vs.length]
  refine IntsAre.append (ints_take (by simpa using hi) 5) ?_
  rw [hlen]
  refine ints_drop (ns := deft) ?_ _
  exact IntsAre.cons _ _ <| IntsAre.cons _ _ <| IntsAre.cons _ _ <| IntsAre.cons _ _ <| IntsAre.cons _ _ IntsAre.nil
noncomputable abbrev isLead (X : Nat → List Nat) : Heap → Nat → Value → Prop := fun _ j y => ∃ t, y = .str (txt (X j)) t
noncomputable abbrev isCols (X : Nat → List Nat) : Heap → Nat → Value → Prop := fun B j y => ∃ r vs, y = .ref r ∧ Hl B r vs ∧ IntsAre vs (colsOf (X j))
theorem isCols.mono (X : Nat → List Nat) (B B' : Heap) (j : Nat) (y : Value) (k : Kp B B') (p : isCols X B j y) : isCols X B' j y := by obtain ⟨r, vs, e, l, i⟩ := p; exact ⟨r, vs, e, l.kp k, i⟩
noncomputable abbrev isWs (X : Nat → List Nat) : Heap → Nat → Value → Prop := fun B j y => ∃ r, y = .ref r ∧ WsAt B r (rowB (X j))
theorem isWs.mono (X : Nat → List Nat) (B B' : Heap) (j : Nat) (y : Value) (k : Kp B B') (p : isWs X B j y) : isWs X B' j y := let ⟨r, e, l⟩ := p; ⟨r, e, l.kp k⟩
theorem law_s1 {lt : Addr} {tv : List Value} {ns : List Int} {a0 : Option Value} (hA : Ar A 4) (C : En env lns lgs) (Kt : Ce env "told" ct) (G : Gk w g) (F : Sx g env.locals s.heap lns (a0 :: none :: rv) keep) (hct : CellIs g ct (.ref lt)) (hl : Hl g lt tv) (hi : IntsAre tv ns) (hn : ns.length = 5)
    {Q : Flow → Shared → Prop} (kont : ∀ g' h t ll lv, Kp g g' → Sx g' env.locals h lns (a0 :: some (.ref ll) :: rv) keep → Hl g' ll lv → Each (isLead fun j => leadOf (ns.getD j 0)) g' 5 lv → Q .next { s with heap := h, toks := t }) :
    wpAny (model prog w) A (exec (lawSt 1) env) Q E s := by
  have hlen := ints_len hi
  refine s_asg (by with_unfolding_all rfl) ?_
  refine asg_each (cl := []) (cgs := ["_law_lead"]) (nw := keep) (P := isLead fun j => leadOf (ns.getD j 0)) (vs' := fun a => a0 :: some (.ref a) :: rv) (swap_loc C (by simp) (by rfl) (by decide +kernel)) (clos_of (by simp [closL])) rfl (by decide +kernel) (gen_list prog w lt tv) (fun _ _ _ _ _ p => p) (by omega) hA.1 C (by decide +kernel) (by decide +kernel)
    (fun h k => (hl.kp k).is) (fun a => by walk_at "put") (fun Q' hq => ldk F.keep Kt hct <| iter_list F (hl.kp F.keep).is fun it h1 F1 => hq it h1 _ F1) ?_ ?_
  · intro D i B v h t nw' Q' E' hi' hv hB C1 _ F2 hq
    have hg : ns[i]? = some (ns.getD i 0) := by rw [List.getD_eq_getElem?_getD, List.getElem?_eq_getElem (by omega)]; rfl
    obtain ⟨kt, e⟩ := ints_get hi hg
    cases e.symm.trans hv
    have GB := G.kp hB
    refine cdef F2.keep C1 (g_lead GB) (fn136 GB) <| args_cons <| ld F2 C1 (by with_reducible repeat (first | exact At.hd | apply At.tl)) <| args_nil ⟨F2.keep, use (law_lead (hA.le (by decide)) (GB.kp F2.keep)) fun v h3 t3 hv => ?_⟩
    obtain ⟨k3, t4, rfl⟩ := hv
    exact hq _ _ B _ Kp.rf (F2.call k3) ⟨_, rfl⟩
  · intro g' acc ys h t kg F4 ha he
    exact kont g' h t acc ys kg F4 ha (by rw [show 5 = tv.length by omega]; exact he)
theorem law_s2 {ll : Addr} {lv : List Value} {X : Nat → List Nat} {a0 : Option Value} (hA : Ar A 4) (C : En env lns lgs) (Kc : Ce env "columns" cc) (G : Gk w g) (F : Sx g env.locals s.heap lns (a0 :: some (.ref ll) :: rv) ((cc, isC none) :: keep)) (hl : Hl g ll lv) (hx : Each (isLead X) g 5 lv)
    (sm : ∀ j, j < 5 → (X j).length ≤ 30 ∧ (X j).all (· < 128) = true)
    {Q : Flow → Shared → Prop} (kont : ∀ g' h t lc cv, Kp g g' → Sx g' env.locals h lns (a0 :: some (.ref ll) :: rv) keep → CellIs g' cc (.ref lc) → Hl g' lc cv → Each (isCols X) g' 5 cv → Q .next { s with heap := h, toks := t }) :
    wpAny (model prog w) A (exec (lawSt 2) env) Q E s := by
  have hlen := hx.1
  refine s_asg (by with_unfolding_all rfl) ?_
  refine wpAny_Assign_Name (hs := swap_cell Kc) <| val_each (cl := []) (cgs := ["_law_columns"]) (P := isCols X) (clos_of (by simp [closL])) rfl (by decide +kernel) (gen_list prog w ll lv) (isCols.mono X) (by omega) hA.1 C (by decide +kernel) (by decide +kernel)
    (fun h k => (hl.kp k).is) (fun Q' hq => ld F C (by with_reducible repeat (first | exact At.hd | apply At.tl)) <| iter_list F (hl.kp F.keep).is fun it h1 F1 => hq it h1 _ F1) ?_ ?_
  · intro D i B v h t nw' Q' E' hi' hv hB C1 _ F2 hq
    obtain ⟨y, e, kt, rfl⟩ := hx.2 i (by omega)
    cases e.symm.trans hv
    obtain ⟨s1, s2⟩ := sm i (by omega)
    have GB := G.kp hB
    refine cdef F2.keep C1 (g_columns GB) (fn143 GB) <| args_cons <| ld F2 C1 (by with_reducible repeat (first | exact At.hd | apply At.tl)) <| args_nil ⟨F2.keep, use (law_columns (hA.le (by decide)) (GB.kp F2.keep) (by omega) s2) fun v h3 t3 hv => ?_⟩
    obtain ⟨k3, r, vs, rfl, n3, ⟨o3, e3, l3⟩, i3⟩ := hv
    obtain ⟨B', kB, F3, fr⟩ := F2.join k3
    exact hq _ _ B' _ kB F3 ⟨r, vs, rfl, ⟨o3, fr _ _ n3 e3, l3⟩, i3⟩
  · intro B acc ys h t hB F3 hJ
    refine stc (v₀ := none) F3 Kc (fun h4 F4 => ?_) (by walk_at "ch")
    obtain ⟨g', kg, F5, fr⟩ := Sx.fza (keep := keep) (pre := [_, _]) F4
    exact kont g' h4 t acc ys (hB.tr kg) F5 (fr (cc, isC (some (.ref acc))) (by walk_at "mem")) (fr (acc, isL ys) (by walk_at "mem")) (by rw [show 5 = lv.length by omega]; exact hJ.kp (isCols.mono X) kg)
theorem law_s4 {ll : Addr} {lv : List Value} {X : Nat → List Nat} {a0 a2 : Option Value} (hA : Ar A 4) (C : En env lns lgs) (Kr : Ce env "rows" cr) (G : Gk w g) (F : Sx g env.locals s.heap lns (a0 :: some (.ref ll) :: a2 :: rv) ((cr, isC none) :: keep)) (hl : Hl g ll lv) (hx : Each (isLead X) g 5 lv)
    (sm : ∀ j, j < 5 → (X j).length ≤ 30 ∧ (X j).all (· < 128) = true)
    {Q : Flow → Shared → Prop} (kont : ∀ g' h t lr wv, Kp g g' → Sx g' env.locals h lns (a0 :: some (.ref ll) :: a2 :: rv) keep → CellIs g' cr (.ref lr) → Hl g' lr wv → Each (isWs X) g' 5 wv → Q .next { s with heap := h, toks := t }) :
    wpAny (model prog w) A (exec (lawSt 4) env) Q E s := by
  have hlen := hx.1
  refine s_asg (by with_unfolding_all rfl) ?_
  refine wpAny_Assign_Name (hs := swap_cell Kr) <| val_each (cl := []) (cgs := ["Whitespace"]) (P := isWs X) (clos_of (by simp [closL])) rfl (by decide +kernel) (gen_list prog w ll lv) (isWs.mono X) (by omega) hA.1 C (by decide +kernel) (by decide +kernel)
    (fun h k => (hl.kp k).is) (fun Q' hq => ld F C (by with_reducible repeat (first | exact At.hd | apply At.tl)) <| iter_list F (hl.kp F.keep).is fun it h1 F1 => hq it h1 _ F1) ?_ ?_
  · intro D i B v h t nw' Q' E' hi' hv hB C1 _ F2 hq
    obtain ⟨y, e, kt, rfl⟩ := hx.2 i (by omega)
    cases e.symm.trans hv
    obtain ⟨s1, s2⟩ := sm i (by omega)
    have GB := G.kp hB
    refine cws F2.keep C1 (g_ws GB) GB <| args_cons <| wpAny_BinOp <| ld F2 C1 (by with_reducible repeat (first | exact At.hd | apply At.tl)) <| k_str fun _ _ => s_add (y := [120, 32]) (by simp; omega) fun _ _ => args_nil ⟨F2.keep, use (ws_make (hA.le (by decide)) (GB.kp F2.keep) (by simp; omega) (by simpa using s2)) fun v h3 t3 hv => ?_⟩
    obtain ⟨k3, r, rfl, hr⟩ := hv
    obtain ⟨B', kB, F3, fr⟩ := F2.join k3
    exact hq _ _ B' _ kB F3 ⟨r, rfl, hr B' fr⟩
  · intro B acc ys h t hB F3 hJ
    refine stc (v₀ := none) F3 Kr (fun h4 F4 => ?_) (by walk_at "ch")
    obtain ⟨g', kg, F5, fr⟩ := Sx.fza (keep := keep) (pre := [_, _]) F4
    exact kont g' h4 t acc ys (hB.tr kg) F5 (fr (cr, isC (some (.ref acc))) (by walk_at "mem")) (fr (acc, isL ys) (by walk_at "mem")) (by rw [show 5 = lv.length by omega]; exact hJ.kp (isWs.mono X) kg)
end

theorem row_all {l : List Int} {M : Int} (hM : M ∈ l) (hm : ∀ a, a ∈ l → a ≤ M) : decide (M < 0) = l.all fun d => decide (d < 0) := by
  rw [Bool.eq_iff_iff, List.all_eq_true]
  simp only [decide_eq_true_eq]
  constructor
  · intro h a ha
    have := hm a ha
    omega
  · intro h
    exact h M hM
noncomputable abbrev isRow (m : Nat → Nat → Bool) : Heap → Nat → Value → Prop := fun B j y => ∃ r, y = .ref r ∧ Hl B r (bools m j)
theorem isRow.mono (m : Nat → Nat → Bool) (B B' : Heap) (j : Nat) (y : Value) (k : Kp B B') (p : isRow m B j y) : isRow m B' j y := let ⟨r, e, l⟩ := p; ⟨r, e, l.kp k⟩
theorem Each.mat {m : Nat → Nat → Bool} {h : Heap} {a : Addr} {ys : List Value} (hl : Hl h a ys) (e : Each (isRow m) h 5 ys) : Mat h a m :=
  ⟨ys, hl, e.1, fun i hi => by obtain ⟨y, ey, r, er, l⟩ := e.2 i hi; exact ⟨r, er ▸ ey, l⟩⟩
section
variable {prog : Program} {w : World} {A : Around} {E : Value → Shared → Prop} {env : Env} {g : Heap} {ns gs : List Str} {vs : List (Option Value)} {nw : Nw} {sH : Heap} {sG : Array GenState} {sD : Drawn} {sT : Nat} {sO : OsState}
  {elt iter1 iter2 : PySem.Expr} {x1 x2 y : Str} {px1 px2 py pos1 pos2 spos : Pos} {scope1 scope2 : Scope} {cl1 : List (Str × Addr)} {cl2 : Addr → List (Str × Addr)} {cgs1 cgs2 : List Str} {m : Nat → Nat → Bool} {vs' : Addr → List (Option Value)} {Q : Flow → Shared → Prop}
/-- a table of truths, a comprehension in a comprehension -/
theorem asg_mat (hsw : swapsWith (.ListComp (.ListComp elt [⟨.Name x2 px2, iter2, [], 0⟩] scope2 pos2) [⟨.Name x1 px1, iter1, [], 0⟩] scope1 pos1) (some (.Name y py)) spos.line env = pure true)
    (hclos1 : closureFor scope1 env = pure cl1) (hkind1 : scope1.kind = .function) (hnames1 : ∀ x ∈ scope1.names, x.2 = .local → scope1.names.lookup x.1 = some .local)
    (hclos2 : ∀ D c, En (compEnvC scope1 ((x1, c) :: cl1) D env) [] cgs1 → Ce (compEnvC scope1 ((x1, c) :: cl1) D env) x1 c → closureFor scope2 (compEnvC scope1 ((x1, c) :: cl1) D env) = pure (cl2 c)) (hkind2 : scope2.kind = .function) (hnames2 : ∀ x ∈ scope2.names, x.2 = .local → scope2.names.lookup x.1 = some .local)
    (hh : A.handled = none) (C : En env ns gs) (hsc1 : scOk scope1 [] cgs1 = true) (hx : scope1.names.lookup x1 = some .cell) (hd : (x1 == ("__debug__" : Str)) = false) (hcf : ∀ k, cellsFrom k scope1.names cl1 = (x1, k) :: cl1) (hpc : ∀ h, pushCells h scope1.names = h.push { cls := .type "cell", data := .cell none })
    (hsc2 : scOk scope2 [x2] cgs2 = true) (hcell2 : ∀ y ∈ scope2.names, y.2 ≠ .cell) (put : ∀ a, Put ns vs y (.ref a) (vs' a))
    (hit1 : ∀ Q' : Value → Shared → Prop, (∀ it h t, Sx g env.locals h ns vs ((it, isRg 0 1 5 0) :: nw) → Q' (.ref it) ⟨h, sG, sD, t, sO⟩) → wpAny (model prog w) A (eval iter1 env) (fun x s₁ => wpAny (model prog w) A (pyIter x) Q' E s₁) E ⟨sH, sG, sD, sT, sO⟩)
    (hit2 : ∀ D c B h t nw' (Q' : Value → Shared → Prop) (E' : Value → Shared → Prop), En (compEnvC scope1 ((x1, c) :: cl1) D env) [] cgs1 → Kp g B → Sx B (compEnvC scope1 ((x1, c) :: cl1) D env).locals h [] [] nw' →
      (∀ it h t, Sx B (compEnvC scope1 ((x1, c) :: cl1) D env).locals h [] [] ((it, isRg 0 1 5 0) :: nw') → Q' (.ref it) ⟨h, sG, sD, t, sO⟩) → wpAny (model prog w) A (eval iter2 (compEnvC scope1 ((x1, c) :: cl1) D env)) (fun x s₁ => wpAny (model prog w) A (pyIter x) Q' E' s₁) E' ⟨h, sG, sD, t, sO⟩)
    (step : ∀ D c D2 i j (kv kj : Tok) B h t nw' (Q' : Value → Shared → Prop) (E' : Value → Shared → Prop), i < 5 → j < 5 → Kp g B → En (compEnvC scope1 ((x1, c) :: cl1) D env) [] cgs1 → Ce (compEnvC scope1 ((x1, c) :: cl1) D env) x1 c →
      En (compEnvC scope2 (cl2 c) D2 (compEnvC scope1 ((x1, c) :: cl1) D env)) [x2] cgs2 → (c, isC (some (.int (i : Nat) kv))) ∈ nw' → Sx B (compEnvC scope2 (cl2 c) D2 (compEnvC scope1 ((x1, c) :: cl1) D env)).locals h [x2] [some (.int (j : Nat) kj)] nw' →
      (∀ h4 t4, Kp h h4 → Q' (.bool (m i j)) ⟨h4, sG, sD, t4, sO⟩) → wpAny (model prog w) A (eval elt (compEnvC scope2 (cl2 c) D2 (compEnvC scope1 ((x1, c) :: cl1) D env))) Q' E' ⟨h, sG, sD, t, sO⟩)
    (kont : ∀ g' h t a, Kp g g' → Sx g' env.locals h ns (vs' a) nw → Mat g' a m → Q .next ⟨h, sG, sD, t, sO⟩)
    (hs1 : ∀ x, foldedSetIterable iter1 env x = pure x := by intro _; rfl) (hs2 : ∀ (e : Env) x, foldedSetIterable iter2 e x = pure x := by intro _ _; rfl) :
    wpAny (model prog w) A (exec (.Assign [.Name y py] (.ListComp (.ListComp elt [⟨.Name x2 px2, iter2, [], 0⟩] scope2 pos2) [⟨.Name x1 px1, iter1, [], 0⟩] scope1 pos1) spos) env) Q E ⟨sH, sG, sD, sT, sO⟩ := by
  refine lc_asg hsw hclos1 hkind1 hnames1 (hit1 _ fun it h1 t1 F1 => ?_) hs1
  refine comp_corec (RR := fun acc D => compPost (model prog w) _ _ (some _) _ acc D) (gen_range prog w 0 1 5) (fun i B ys => Each (isRow m) B i ys) (by decide) hh C hsc1 hx hd hcf hpc (fun _ _ => trivial) F1 Each.nil ?_ ?_
  · intro D c acc oL i B ys v h t E' hi hJ hv hB C1 K1 F2
    obtain ⟨kv, rfl⟩ := val0 hv
    refine opq fun Q1 E1 hQ1 _ => ?_
    refine no_tests <| hQ1 _ _ ⟨_, _, B, rfl, Kp.rf, F2, ?_⟩
    rw [if_pos rfl]
    refine opq fun Q2 E2 hQ2 _ => ?_
    refine val_each (P := fun _ j z => z = .bool (m i j)) (hclos2 D c C1 K1) hkind2 hnames2 (gen_range prog w 0 1 5) (fun _ _ _ _ _ p => p) (by decide) hh C1 hsc2 hcell2 (fun _ _ => trivial) (fun Q' hq => hit2 D c B h t _ Q' _ C1 hB F2 hq) ?_ ?_ (hs2 _)
    · intro D2 j B2 v2 h4 t4 nw' Q' E2 hj hv2 hB2 C2 hsub F4 hq
      obtain ⟨kj, rfl⟩ := val0 hv2
      exact step D c D2 i j kv kj B2 h4 t4 nw' Q' E2 hi hj (hB.tr hB2) C1 K1 C2 (hsub _ (List.mem_cons_of_mem _ (List.mem_cons_of_mem _ List.mem_cons_self))) F4 fun h5 t5 k5 => hq _ _ B2 _ Kp.rf (F4.call k5) rfl
    · intro B2 acc2 zs h4 t4 hB2 F4 hz
      obtain ⟨B3, kB3, hB3, F5⟩ := F4.fz
      refine hQ2 _ _ ⟨_, _, B3, rfl, hB2.tr kB3, F5, (hJ.kp (isRow.mono _) (hB2.tr kB3)).snoc ⟨_, rfl, ?_⟩⟩
      have ez : zs = bools m i := by
        refine List.ext_getElem (by rw [hz.1]; simp [bools]) fun j h1 h2 => ?_
        obtain ⟨z, e1, e2⟩ := hz.2 j (by rw [← hz.1]; exact h1)
        rw [List.getElem?_eq_getElem h1] at e1
        rw [Option.some.inj e1, e2]
        simp [bools]
      rw [← ez]
      exact hB3
  · intro D c acc oL B ys o h t eL hJ hB F2
    refine post_some (xs := [(c, isC o)]) C F1 eL F2 (put acc) fun h3 t3 F3 => ?_
    obtain ⟨g', kg, ha, F4⟩ := F3.fz
    exact kont g' h3 t3 acc (hB.tr kg) F4 (Each.mat ha (hJ.kp (isRow.mono _) kg))
end
section
variable {prog : Program} {w : World} {A : Around} {E : Value → Shared → Prop} {s : Shared} {env : Env} {g : Heap} {rv : List (Option Value)} {keep : Nw} {ct cc cr cf : Addr}
theorem law_s3 {lc : Addr} {cv : List Value} {X : Nat → List Nat} {a0 a1 : Option Value} (hA : Ar A 4) (C : En env lns lgs) (Kc : Ce env "columns" cc) (G : Gk w g) (F : Sx g env.locals s.heap lns (a0 :: a1 :: none :: rv) keep) (hcc : CellIs g cc (.ref lc)) (hl : Hl g lc cv) (hx : Each (isCols X) g 5 cv)
    {Q : Flow → Shared → Prop} (kont : ∀ g' h t lf, Kp g g' → Sx g' env.locals h lns (a0 :: a1 :: some (.ref lf) :: rv) keep → (Mat g' lf fun i k => leftB (X i) (X k)) → Q .next { s with heap := h, toks := t }) :
    wpAny (model prog w) A (exec (lawSt 3) env) Q E s := by
  have hlen := hx.1
  refine s_asg (by with_unfolding_all rfl) ?_
  refine asg_mat (cl1 := [("columns", cc)]) (cl2 := fun c => [("i", c), ("columns", cc)]) (cgs1 := ["range"]) (cgs2 := ["max", "zip"]) (nw := keep) (m := fun i k => leftB (X i) (X k)) (vs' := fun a => a0 :: a1 :: some (.ref a) :: rv) (swap_loc C (by simp) (by rfl) (by decide +kernel)) (clos_of (by simp [closL, Kc.addr])) rfl (by decide +kernel)
    (fun D c C1 K1 => clos_of (by simp [closL, (Kc.cmp C1 (by decide +kernel) rfl).addr, K1.addr])) rfl (by decide +kernel) hA.1 C (by decide +kernel) (by decide +kernel) (by decide) (fun _ => rfl) (fun _ => rfl) (by decide +kernel) (by decide +kernel) (fun a => by walk_at "put")
    (fun Q' hq => ctyp F.keep C (g_range G) <| args_cons <| k_int fun _ _ => args_nil <| rng5 F fun it h1 t1 F1 => hq it h1 t1 F1)
    (fun D c B h t nw' Q' E' C1 hB F2 hq => ctyp F2.keep C1 (g_range (G.kp hB)) <| args_cons <| k_int fun _ _ => args_nil <| rng5 F2 fun it h1 t1 F1 => hq it h1 t1 F1) ?_ kont
  intro D c D2 i j kv kj B h t nw' Q' E' hi hj hB C1 K1 C2 hm F4 hq
  have Kc2 := (Kc.cmp C1 (by decide +kernel) rfl).cmp C2 (by decide +kernel) rfl
  have K2 := K1.cmp C2 (by decide +kernel) rfl
  have kg4 := hB.tr F4.keep
  have G2 := G.kp hB
  obtain ⟨_, ei, ri, vi, rfl, li, ii⟩ := hx.2 i hi
  obtain ⟨_, ej, rj, vj, rfl, lj, ij⟩ := hx.2 j hj
  refine wpAny_Compare1 <| cblt F4.keep C2 (g_max G2) <| args_cons <| lc_open (cl := []) (clos_of (by simp [closL])) rfl (by decide +kernel) ?_
  refine ctyp F4.keep C2 (g_zip G2) <| args_cons <| Subscript_ <| ldk kg4 Kc2 hcc <| ldc F4 K2 (v := .int i kv) (itemn (hl.kp kg4) (by first | with_reducible assumption | with_reducible exact lt5 (by assumption) | omega) ei <| args_cons <| Subscript_ <| ldk kg4 Kc2 hcc <| ld F4 C2 (by with_reducible repeat (first | exact At.hd | apply At.tl)) <| itemn (hl.kp kg4) (by first | with_reducible assumption | with_reducible exact lt5 (by assumption) | omega) ej <| args_nil ?_) hm
  refine zip_comp (cgs := []) hA.1 C2 (by decide +kernel) (by decide +kernel) (li.kp kg4) (lj.kp kg4) ii ij rfl (by simp [colsOf]) (fun D a b t u s' E' Q' B nw' C3 F5 hq => wpAny_BinOp <| ld F5 C3 (by with_reducible repeat (first | exact At.hd | apply At.tl)) <| ld F5 C3 (by with_reducible repeat (first | exact At.hd | apply At.tl)) <| i_sub fun _ _ => hq _ _) fun acc3 ys3 h5 t5 k5 n5 l5 i5 => ?_
  refine args_nil <| max_l hA.1 l5.is i5 (by simp [colsOf]) fun h6 M tM tk6 k6 hM hmax => ?_
  refine k_int fun _ _ => lt_int ?_
  have e : decide (M < 0) = leftB (X i) (X j) := row_all hM hmax
  rw [e]
  exact hq _ _ (k5.tr k6)
theorem law_s5 {lr : Addr} {wv : List Value} {X : Nat → List Nat} {a0 a1 a2 : Option Value} (hA : Ar A 4) (C : En env lns lgs) (Kr : Ce env "rows" cr) (G : Gk w g) (F : Sx g env.locals s.heap lns (a0 :: a1 :: a2 :: none :: rv) keep) (hcr : CellIs g cr (.ref lr)) (hl : Hl g lr wv) (hx : Each (isWs X) g 5 wv)
    (sm : ∀ j, j < 5 → Small (rowB (X j)) = true)
    {Q : Flow → Shared → Prop} (kont : ∀ g' h t lf, Kp g g' → Sx g' env.locals h lns (a0 :: a1 :: a2 :: some (.ref lf) :: rv) keep → (Mat g' lf fun i k => lessP (rowB (X i)) (rowB (X k))) → Q .next { s with heap := h, toks := t }) :
    wpAny (model prog w) A (exec (lawSt 5) env) Q E s := by
  have hlen := hx.1
  refine s_asg (by with_unfolding_all rfl) ?_
  refine asg_mat (cl1 := [("rows", cr)]) (cl2 := fun c => [("rows", cr), ("i", c)]) (cgs1 := ["range"]) (cgs2 := []) (nw := keep) (m := fun i k => lessP (rowB (X i)) (rowB (X k))) (vs' := fun a => a0 :: a1 :: a2 :: some (.ref a) :: rv) (swap_loc C (by simp) (by rfl) (by decide +kernel)) (clos_of (by simp [closL, Kr.addr])) rfl (by decide +kernel)
    (fun D c C1 K1 => clos_of (by simp [closL, (Kr.cmp C1 (by decide +kernel) rfl).addr, K1.addr])) rfl (by decide +kernel) hA.1 C (by decide +kernel) (by decide +kernel) (by decide) (fun _ => rfl) (fun _ => rfl) (by decide +kernel) (by decide +kernel) (fun a => by walk_at "put")
    (fun Q' hq => ctyp F.keep C (g_range G) <| args_cons <| k_int fun _ _ => args_nil <| rng5 F fun it h1 t1 F1 => hq it h1 t1 F1)
    (fun D c B h t nw' Q' E' C1 hB F2 hq => ctyp F2.keep C1 (g_range (G.kp hB)) <| args_cons <| k_int fun _ _ => args_nil <| rng5 F2 fun it h1 t1 F1 => hq it h1 t1 F1) ?_ kont
  intro D c D2 i j kv kj B h t nw' Q' E' hi hj hB C1 K1 C2 hm F4 hq
  have Kr2 := (Kr.cmp C1 (by decide +kernel) rfl).cmp C2 (by decide +kernel) rfl
  have K2 := K1.cmp C2 (by decide +kernel) rfl
  have kg4 := hB.tr F4.keep
  have G4 := (G.kp hB).kp F4.keep
  obtain ⟨_, ei, ri, rfl, wi⟩ := hx.2 i hi
  obtain ⟨_, ej, rj, rfl, wj⟩ := hx.2 j hj
  have wi4 := wi.kp kg4
  have wj4 := wj.kp kg4
  obtain ⟨dx, raw, k1, k2, k3, p, q, qs, I, _, _, _⟩ := id wi4
  refine cmeth (f := 115) (by with_unfolding_all rfl) (by with_unfolding_all rfl) (hev := fun fv Q s h => ev1 rfl fv Q s h) <| Subscript_ <| ldk kg4 Kr2 hcr <| ldc F4 K2 (v := .int i kv) (itemn (hl.kp kg4) (by first | with_reducible assumption | with_reducible exact lt5 (by assumption) | omega) ei ⟨ri, dx, _, rfl, G4, I, rfl, args_cons <| Subscript_ <| ldk kg4 Kr2 hcr <| ld F4 C2 (by with_reducible repeat (first | exact At.hd | apply At.tl)) <| itemn (hl.kp kg4) (by first | with_reducible assumption | with_reducible exact lt5 (by assumption) | omega) ej <|
    args_nil ⟨fn115 G4, use (ws_less (hA.le (by decide)) G4 wi4 wj4 (sm i hi) (sm j hj)) fun v h5 t5 hv => ?_⟩⟩) hm
  obtain ⟨k5, rfl⟩ := hv
  exact hq _ _ k5
end

theorem reads_map {h : Heap} {α : Type} (f : α → Value) (d : α → PyData) : ∀ l : List α, (∀ i ∈ l, ∃ as, Reads h (f i) (d i) as) → ∃ as, ReadsAll h (l.map f) (l.map d) as
  | [], _ => ⟨[], .nil⟩
  | a :: r, H => by
    obtain ⟨as, ha⟩ := H a List.mem_cons_self
    obtain ⟨bs, hb⟩ := reads_map f d r fun i hi => H i (List.mem_cons_of_mem _ hi)
    exact ⟨_, .cons ha hb⟩
theorem ints_of : ∀ {ys : List Value} {ns : List Int}, ys.length = ns.length → (∀ (j : Nat) (c : Int), ns[j]? = some c → ∃ t, ys[j]? = some (Value.int c t)) → IntsAre ys ns
  | [], [], _, _ => IntsAre.nil
  | y :: ys, c :: ns, h, H => by
    obtain ⟨t, e⟩ := H 0 c rfl
    cases Option.some.inj e
    exact IntsAre.cons _ _ (ints_of (Nat.succ.inj h) fun j c hj => H (j + 1) c hj)
  | [], _ :: _, h, _ => nomatch h
  | _ :: _, [], h, _ => nomatch h
noncomputable def matD (m : Nat → Nat → Bool) : PyData := .list ((List.range 5).map fun i => .list ((List.range 5).map fun k => .bool (m i k)))
theorem list5 {α : Type} {ys : List α} (d : α) (h : ys.length = 5) : ys = (List.range 5).map fun k => ys.getD k d := by
  refine List.ext_getElem (by simpa using h) fun j h1 h2 => ?_
  simp [List.getD_eq_getElem?_getD, List.getElem?_eq_getElem h1]
theorem Mat.reads {h : Heap} {a : Addr} {m : Nat → Nat → Bool} (M : Mat h a m) : ∃ as, Reads h (.ref a) (matD m) as := by
  obtain ⟨rs, ⟨o, e, n, rfl⟩, hn, hr⟩ := M
  have q : ∃ as, ReadsAll h ((List.range 5).map fun k => rs.getD k .none) ((List.range 5).map fun i => PyData.list ((List.range 5).map fun k => .bool (m i k))) as := by
    refine reads_map _ _ _ fun i hi => ?_
    obtain ⟨r, er, o, eo, n, rfl⟩ := hr i (List.mem_range.mp hi)
    have : rs.getD i .none = .ref r := by rw [List.getD_eq_getElem?_getD, er]; rfl
    rw [this]
    obtain ⟨as, ha⟩ := reads_map (h := h) (fun k => Value.bool (m i k)) (fun k => PyData.bool (m i k)) (List.range 5) fun k _ => ⟨_, .bool _⟩
    exact ⟨_, .list eo rfl rfl ha⟩
  obtain ⟨as, ha⟩ := q
  rw [← list5 Value.none hn] at ha
  exact ⟨_, .list e rfl rfl ha⟩
theorem matD_ok (m : Nat → Nat → Bool) : PySem.SeqAt.shaped (matD m) = true ∧ PySem.SeqAt.noMix (matD m) (matD m) = true := by
  constructor <;> with_unfolding_all rfl
noncomputable abbrev isKey (K : Nat → Int) : Heap → Nat → Value → Prop := fun B j y => ∃ r t u, y = .ref r ∧ B.get? r = some (to [.int (K j) t, .int j u])
theorem isKey.mono (K : Nat → Int) (B B' : Heap) (j : Nat) (y : Value) (k : Kp B B') (p : isKey K B j y) : isKey K B' j y := by obtain ⟨r, t, u, e, l⟩ := p; exact ⟨r, t, u, e, k _ _ l⟩
theorem Each.keys {K : Nat → Int} {h : Heap} {a : Addr} {ys : List Value} (hl : Hl h a ys) (e : Each (isKey K) h 5 ys) : ∃ f, KeysAt h a K f := by
  refine ⟨fun k => ys.getD k .none, list5 Value.none e.1 ▸ hl, fun k hk => ?_⟩
  obtain ⟨y, ey, r, t, u, er, ob⟩ := e.2 k hk
  refine ⟨r, t, u, ?_, ob⟩
  show ys.getD k .none = _
  rw [List.getD_eq_getElem?_getD, ey]; exact er
section
variable {prog : Program} {w : World} {A : Around} {E : Value → Shared → Prop} {s : Shared} {env : Env} {g : Heap} {rv : List (Option Value)} {keep : Nw} {ct cc cr cf : Addr} {a0 a1 a2 a3 a4 a5 a6 a7 : Option Value}
open Builtin Builtin.Str in
theorem s_find2 {sH : Heap} {sG : Array GenState} {sD : Drawn} {sT : Nat} {sO : OsState} {l : List Nat} {c : Nat} {t u : Tok} {Q : Value → Shared → Prop} (hc : c ∈ l) (h : ∀ t u, Q (.int (l.idxOf c : Nat) t) ⟨sH, sG, sD, u, sO⟩) :
    wpAny (model prog w) A (call (.builtin "str.find") [.str (txt l) t, .str (txt [c]) u]) Q E ⟨sH, sG, sD, sT, sO⟩ := by
  refine call_gives F.slot_str_find (typeIs_str _ _ _) F.entry_str_find (F.args_str_find_2 _ _) (gives_str_find _ _ _ _) ?_
  have hs := find_spec l [c] 0 (by simp) (by simp) _ rfl
  rw [txt_len]
  have ha := after_idx hc
  have hi := List.idxOf_lt_length_of_mem hc
  have key : ∀ r : Int, ((aft (l.drop 0) [c] = none ∧ r = -1) ∨ ∃ q : Nat, r = q ∧ q + [c].length ≤ l.length ∧ aft (l.drop 0) [c] = some (l.drop (q + [c].length))) → r = (l.idxOf c : Nat) := by
    rintro r (⟨hn, _⟩ | ⟨q, rfl, hq, ha'⟩)
    · rw [List.drop_zero] at hn
      rw [show aft l [c] = after l c from rfl, ha] at hn
      cases hn
    · rw [List.drop_zero, show aft l [c] = after l c from rfl, ha] at ha'
      have e := congrArg List.length (Option.some.inj ha')
      simp at e hq
      omega
  have e := key _ hs
  exact Eq.mpr (congrArg (fun r : Int => (Made.int r).post Q ⟨sH, sG, sD, sT, sO⟩) e) (h _ _)
theorem law_s6 {la lf : Addr} {m : Nat → Nat → Bool} (hA : Ar A 4) (C : En env lns lgs) (F : Sx g env.locals s.heap lns (a0 :: a1 :: some (.ref lf) :: some (.ref la) :: rv) keep) (M : Mat g lf m) (M' : Mat g la m)
    {Q : Flow → Shared → Prop} (kont : ∀ h t, Sx g env.locals h lns (a0 :: a1 :: some (.ref lf) :: some (.ref la) :: rv) keep → Q .next { s with heap := h, toks := t }) :
    wpAny (model prog w) A (exec (lawSt 6) env) Q E s := by
  refine s_if (by with_unfolding_all rfl) ?_
  obtain ⟨as, ra⟩ := (M'.kp F.keep).reads
  obtain ⟨bs, rb⟩ := (M.kp F.keep).reads
  refine wpAny_If <| wpAny_isTrue_Compare1 <| ld F C (by with_reducible repeat (first | exact At.hd | apply At.tl)) <| ld F C (by with_reducible repeat (first | exact At.hd | apply At.tl)) <| ne_dataH_same ra rb (matD_ok m).1 (matD_ok m).1 (by have := hA.2.2; show _ < 9900; omega) (matD_ok m).2 <| wpAny_truthy_bool ?_
  rw [PySem.Spec.same_self, if_neg (by decide)]
  exact wpAny_execs_nil (kont _ _ F)
theorem law_s7 {lt : Addr} {tv : List Value} {ns : List Int} (hA : Ar A 4) (C : En env lns lgs) (Kt : Ce env "told" ct) (G : Gk w g) (F : Sx g env.locals s.heap lns (a0 :: a1 :: a2 :: a3 :: none :: rv) keep) (hct : CellIs g ct (.ref lt)) (hl : Hl g lt tv) (hi : IntsAre tv ns) (hn : ns.length = 5)
    {Q : Flow → Shared → Prop} (kont : ∀ g' h t kl K kf, Kp g g' → Sx g' env.locals h lns (a0 :: a1 :: a2 :: a3 :: some (.ref kl) :: rv) keep → KeysAt g' kl K kf → Q .next { s with heap := h, toks := t }) :
    wpAny (model prog w) A (exec (lawSt 7) env) Q E s := by
  have hlen := ints_len hi
  refine s_asg (by with_unfolding_all rfl) ?_
  refine asg_each (cl := [("told", ct)]) (cgs := []) (nw := keep) (P := isKey fun k => (ns.getD k 0).fdiv 31) (vs' := fun a => a0 :: a1 :: a2 :: a3 :: some (.ref a) :: rv) (swap_loc C (by simp) (by rfl) (by decide +kernel)) (clos_of (by simp [closL, Kt.addr])) rfl (by decide +kernel) (gen_range prog w 0 1 5) (isKey.mono _) (by decide) hA.1 C (by decide +kernel) (by decide +kernel)
    (fun _ _ => trivial) (fun a => by walk_at "put") (fun Q' hq => ctyp F.keep C (g_range G) <| args_cons <| k_int fun _ _ => args_nil <| rng5 F fun it h1 t1 F1 => hq it h1 t1 F1) ?_ ?_
  · intro D i B v h t nw' Q' E' hi' hv hB C1 _ F2 hq
    obtain ⟨kv, rfl⟩ := val0 hv
    have hg : ns[i]? = some (ns.getD i 0) := by rw [List.getD_eq_getElem?_getD, List.getElem?_eq_getElem (by omega)]; rfl
    obtain ⟨kt, e⟩ := ints_get hi hg
    have Kt1 := Kt.cmp C1 (by decide +kernel) rfl
    have kg2 := hB.tr F2.keep
    refine Tuple_ <| args_cons <| wpAny_BinOp <| Subscript_ <| ldk kg2 Kt1 hct <| ld F2 C1 (by with_reducible repeat (first | exact At.hd | apply At.tl)) <| itemn (hl.kp kg2) (by first | with_reducible assumption | with_reducible exact lt5 (by assumption) | omega) e <| k_int fun _ _ => i_div (by decide) (by decide) fun kd _ => args_cons <| ld F2 C1 (by with_reducible repeat (first | exact At.hd | apply At.tl)) <| args_nil <| n_tuple F2 (by simp) fun a h3 F3 => ?_
    obtain ⟨B', kB, ⟨o, eo, ho⟩, F4⟩ := F3.fz
    exact hq _ _ B' _ kB F4 ⟨a, kd, kv, rfl, by rw [eo, ho]⟩
  · intro g' acc ys h t kg F4 ha he
    obtain ⟨kf, ks⟩ := Each.keys ha he
    exact kont g' h t acc _ kf kg F4 ks
theorem law_s8 {la kl : Addr} {m : Nat → Nat → Bool} {K : Nat → Int} {kf : Nat → Value} (hA : Ar A 5) (C : En env lns lgs) (Kf : Ce env "first" cf) (G : Gk w g) (F : Sx g env.locals s.heap lns (a0 :: a1 :: a2 :: some (.ref la) :: some (.ref kl) :: rv) ((cf, isC none) :: keep)) (M : Mat g la m) (KS : KeysAt g kl K kf)
    {Q : Flow → Shared → Prop} (kont : ∀ g' h t T tk, Kp g g' → Sx g' env.locals h lns (a0 :: a1 :: a2 :: some (.ref la) :: some (.ref kl) :: rv) keep → CellIs g' cf (.str (txt (T.map (97 + ·))) tk) → Greedy m (fun x k => lexlt (K k) k (K x) x = false) T → (∀ k, k < 5 → k ∉ T → cnt m T k ≠ 0) → Q .next { s with heap := h, toks := t }) :
    wpAny (model prog w) A (exec (lawSt 8) env) Q E s := by
  refine s_asg (by with_unfolding_all rfl) ?_
  refine wpAny_Assign_Name <| cdef F.keep C (g_order G) (fn148 G) <| args_cons <| ld F C (by with_reducible repeat (first | exact At.hd | apply At.tl)) <| args_cons <| ld F C (by with_reducible repeat (first | exact At.hd | apply At.tl)) <| args_nil ⟨F.keep, use (law_order hA (G.kp F.keep) (M.kp F.keep) (KS.kp F.keep)) fun v h1 t1 hv => ?_⟩
  obtain ⟨k1, T, tk, rfl, hG, hT⟩ := hv
  refine stc (v₀ := none) (F.call k1) Kf (fun h2 F2 => ?_) (by walk_at "ch")
  obtain ⟨g', kg, hc, F3⟩ := F2.fz
  exact kont g' h2 _ T tk kg F3 hc hG hT
theorem law_s11 {la kl : Addr} {m : Nat → Nat → Bool} {K : Nat → Int} {kf : Nat → Value} (hA : Ar A 5) (C : En env lns lgs) (G : Gk w g) (F : Sx g env.locals s.heap lns (a0 :: a1 :: a2 :: some (.ref la) :: a4 :: some (.ref kl) :: none :: rv) keep) (M : Mat g la m) (KS : KeysAt g kl K kf)
    {Q : Flow → Shared → Prop} (kont : ∀ h t T tk, Sx g env.locals h lns (a0 :: a1 :: a2 :: some (.ref la) :: a4 :: some (.ref kl) :: some (.str (txt (T.map (97 + ·))) tk) :: rv) keep → Greedy m (fun x k => lexlt (K k) k (K x) x = false) T → (∀ k, k < 5 → k ∉ T → cnt m T k ≠ 0) → Q .next { s with heap := h, toks := t }) :
    wpAny (model prog w) A (exec (lawSt 11) env) Q E s := by
  refine s_asg (by with_unfolding_all rfl) ?_
  refine wpAny_Assign_Name <| cdef F.keep C (g_order G) (fn148 G) <| args_cons <| ld F C (by with_reducible repeat (first | exact At.hd | apply At.tl)) <| args_cons <| ld F C (by with_reducible repeat (first | exact At.hd | apply At.tl)) <| args_nil ⟨F.keep, use (law_order hA (G.kp F.keep) (M.kp F.keep) (KS.kp F.keep)) fun v h1 t1 hv => ?_⟩
  obtain ⟨k1, T, tk, rfl, hG, hT⟩ := hv
  have F1 := F.call k1
  refine st F1 C fun h2 t2 F2 => ?_
  exact kont h2 _ T tk F2 hG hT
theorem law_s9 {lf kl : Addr} {l : List Nat} {tk : Tok} {m : Nat → Nat → Bool} {K : Nat → Int} {kf : Nat → Value} (hA : Ar A 5) (C : En env lns lgs) (Kf : Ce env "first" cf) (G : Gk w g) (F : Sx g env.locals s.heap lns (a0 :: a1 :: some (.ref lf) :: a3 :: some (.ref kl) :: rv) keep) (hcf : CellIs g cf (.str (txt l) tk)) (M : Mat g lf m) (KS : KeysAt g kl K kf) (hp : l.Perm abc) (H : ToldP l m K)
    {Q : Flow → Shared → Prop} (kont : ∀ h t, Sx g env.locals h lns (a0 :: a1 :: some (.ref lf) :: a3 :: some (.ref kl) :: rv) keep → Q .next { s with heap := h, toks := t }) :
    wpAny (model prog w) A (exec (lawSt 9) env) Q E s := by
  refine s_if (by with_unfolding_all rfl) ?_
  refine wpAny_If <| t_not <| isTrue_plain <| cdef F.keep C (g_told G) (fn162 G) <| args_cons <| ldk F.keep Kf hcf <| args_cons <| ld F C (by with_reducible repeat (first | exact At.hd | apply At.tl)) <| args_cons <| ld F C (by with_reducible repeat (first | exact At.hd | apply At.tl)) <| args_nil ⟨F.keep, use (law_told (hA.le (by decide)) (G.kp F.keep) (M.kp F.keep) (KS.kp F.keep) hp H) fun v h1 t1 hv => ?_⟩
  obtain ⟨k1, rfl⟩ := hv
  refine wpAny_truthy_bool ?_
  rw [if_neg (by decide)]
  exact wpAny_execs_nil (kont _ _ (F.call k1))
theorem law_s12 {lf kl : Addr} {l : List Nat} {tk : Tok} {m : Nat → Nat → Bool} {K : Nat → Int} {kf : Nat → Value} (hA : Ar A 5) (C : En env lns lgs) (G : Gk w g) (F : Sx g env.locals s.heap lns (a0 :: a1 :: some (.ref lf) :: a3 :: a4 :: some (.ref kl) :: some (.str (txt l) tk) :: rv) keep) (M : Mat g lf m) (KS : KeysAt g kl K kf) (hp : l.Perm abc) (H : ToldP l m K)
    {Q : Flow → Shared → Prop} (kont : ∀ h t, Sx g env.locals h lns (a0 :: a1 :: some (.ref lf) :: a3 :: a4 :: some (.ref kl) :: some (.str (txt l) tk) :: rv) keep → Q .next { s with heap := h, toks := t }) :
    wpAny (model prog w) A (exec (lawSt 12) env) Q E s := by
  refine s_if (by with_unfolding_all rfl) ?_
  refine wpAny_If <| t_not <| isTrue_plain <| cdef F.keep C (g_told G) (fn162 G) <| args_cons <| ld F C (by with_reducible repeat (first | exact At.hd | apply At.tl)) <| args_cons <| ld F C (by with_reducible repeat (first | exact At.hd | apply At.tl)) <| args_cons <| ld F C (by with_reducible repeat (first | exact At.hd | apply At.tl)) <| args_nil ⟨F.keep, use (law_told (hA.le (by decide)) (G.kp F.keep) (M.kp F.keep) (KS.kp F.keep) hp H) fun v h1 t1 hv => ?_⟩
  obtain ⟨k1, rfl⟩ := hv
  refine wpAny_truthy_bool ?_
  rw [if_neg (by decide)]
  exact wpAny_execs_nil (kont _ _ (F.call k1))
theorem law_s10 {l : List Nat} {tk : Tok} (hA : Ar A 4) (C : En env lns lgs) (Kf : Ce env "first" cf) (G : Gk w g) (F : Sx g env.locals s.heap lns (a0 :: a1 :: a2 :: a3 :: a4 :: none :: rv) keep) (hcf : CellIs g cf (.str (txt l) tk)) (hm : ∀ k, k < 5 → 97 + k ∈ l)
    {Q : Flow → Shared → Prop} (kont : ∀ g' h t kl kf, Kp g g' → Sx g' env.locals h lns (a0 :: a1 :: a2 :: a3 :: a4 :: some (.ref kl) :: rv) keep → KeysAt g' kl (fun k => -(l.idxOf (97 + k) : Nat)) kf → Q .next { s with heap := h, toks := t }) :
    wpAny (model prog w) A (exec (lawSt 10) env) Q E s := by
  refine s_asg (by with_unfolding_all rfl) ?_
  refine asg_each (cl := [("first", cf)]) (cgs := []) (nw := keep) (P := isKey fun k => -(l.idxOf (97 + k) : Nat)) (vs' := fun a => a0 :: a1 :: a2 :: a3 :: a4 :: some (.ref a) :: rv) (swap_loc C (by simp) (by rfl) (by decide +kernel)) (clos_of (by simp [closL, Kf.addr])) rfl (by decide +kernel) (gen_range prog w 0 1 5) (isKey.mono _) (by decide) hA.1 C (by decide +kernel) (by decide +kernel)
    (fun _ _ => trivial) (fun a => by walk_at "put") (fun Q' hq => ctyp F.keep C (g_range G) <| args_cons <| k_int fun _ _ => args_nil <| rng5 F fun it h1 t1 F1 => hq it h1 t1 F1) ?_ ?_
  · intro D i B v h t nw' Q' E' hi' hv hB C1 _ F2 hq
    obtain ⟨kv, rfl⟩ := val0 hv
    have Kf1 := Kf.cmp C1 (by decide +kernel) rfl
    have kg2 := hB.tr F2.keep
    refine Tuple_ <| args_cons <| UnaryOp_ <| smeth PySem.F.slot_str_find PySem.F.type_str_find <| ldk kg2 Kf1 hcf ⟨_, _, rfl, args_cons <| Subscript_ <| k_str fun _ _ => ld F2 C1 (by with_reducible repeat (first | exact At.hd | apply At.tl)) <| s_item (x := abc) (by first | with_reducible assumption | with_reducible exact lt5 (by assumption) | omega) (abc_at hi') fun _ _ => args_nil <| s_find2 (hm i hi') fun kd _ => neg_int <| args_cons <| ld F2 C1 (by with_reducible repeat (first | exact At.hd | apply At.tl)) <| args_nil <| n_tuple F2 (by simp) fun a h3 F3 => ?_⟩
    obtain ⟨B', kB, ⟨o, eo, ho⟩, F4⟩ := F3.fz
    exact hq _ _ B' _ kB F4 ⟨a, _, kv, rfl, by rw [eo, ho]⟩
  · intro g' acc ys h t kg F4 ha he
    obtain ⟨kf, ks⟩ := Each.keys ha he
    exact kont g' h t acc kf kg F4 ks
theorem law_s13 {T : List Nat} {tk : Tok} (hA : Ar A 4) (C : En env lns lgs) (Kf : Ce env "first" cf) (G : Gk w g) (F : Sx g env.locals s.heap lns (a0 :: a1 :: a2 :: a3 :: a4 :: a5 :: a6 :: none :: rv) keep) (hcf : CellIs g cf (.str (txt (T.map (97 + ·))) tk)) (hm : ∀ k ∈ T, k < 5) (hT : T.length = 5)
    {Q : Flow → Shared → Prop} (kont : ∀ g' h t pl pv, Kp g g' → Sx g' env.locals h lns (a0 :: a1 :: a2 :: a3 :: a4 :: a5 :: a6 :: some (.ref pl) :: rv) keep → Hl g' pl pv → IntsAre pv (T.map fun k : Nat => (k : Int)) → Q .next { s with heap := h, toks := t }) :
    wpAny (model prog w) A (exec (lawSt 13) env) Q E s := by
  refine s_asg (by with_unfolding_all rfl) ?_
  have hsz : (txt (T.map (97 + ·))).cps.size = 5 := by simp [txt, hT]
  refine asg_each (cl := []) (cgs := []) (nw := keep) (P := fun _ j v => ∃ t, v = Value.int (T.getD j 0 : Nat) t) (vs' := fun a => a0 :: a1 :: a2 :: a3 :: a4 :: a5 :: a6 :: some (.ref a) :: rv) (swap_loc C (by simp) (by rfl) (by decide +kernel)) (clos_of (by simp [closL])) rfl (by decide +kernel) (gen_str prog w (txt (T.map (97 + ·))) tk) (fun _ _ _ _ _ p => p) (by rw [hsz]; decide) hA.1 C (by decide +kernel) (by decide +kernel)
    (fun _ _ => trivial) (fun a => by walk_at "put") (fun Q' hq => ldk F.keep Kf hcf <| iter_str F (by simp only [txt, List.all_toArray, List.all_map, List.all_eq_true]; intro x hx; have := hm x hx; simp; omega) fun it h1 F1 => hq it h1 _ F1) ?_ ?_
  · intro D i B v h t nw' Q' E' hi' hv hB C1 _ F2 hq
    obtain ⟨c, kk, hc, rfl⟩ := hv
    have hc' := txt_at hc
    rw [List.getElem?_map] at hc'
    obtain ⟨x, hx, rfl⟩ := Option.map_eq_some_iff.mp hc'
    have hx5 := hm x (List.mem_of_getElem? hx)
    rw [show (⟨#[97 + x]⟩ : Str) = txt [97 + x] from rfl] at F2
    refine smeth PySem.F.slot_str_find PySem.F.type_str_find <| k_str fun _ _ => ⟨_, _, rfl, args_cons <| ld F2 C1 (by with_reducible repeat (first | exact At.hd | apply At.tl)) <| args_nil <| s_find2 (l := abc) (c := 97 + x) (abc_mem hx5) fun kd _ => hq _ _ B _ Kp.rf F2 ⟨kd, ?_⟩⟩
    have ei : abc.idxOf (97 + x) = x := by
      have : x = 0 ∨ x = 1 ∨ x = 2 ∨ x = 3 ∨ x = 4 := by omega
      rcases this with rfl | rfl | rfl | rfl | rfl <;> rfl
    rw [ei, List.getD_eq_getElem?_getD, hx]
    rfl
  · intro g' acc ys h t kg F4 ha he
    exact kont g' h t acc _ kg F4 ha (ints_of (by rw [he.1, hsz, List.length_map, hT]) fun j c hj => by
      rw [List.getElem?_map] at hj
      obtain ⟨x, hx, rfl⟩ := Option.map_eq_some_iff.mp hj
      obtain ⟨y, ey, u, rfl⟩ := he.2 j (by rw [hsz, ← hT]; exact (List.getElem?_eq_some_iff.mp hx).1)
      refine ⟨u, ?_⟩
      rw [ey, List.getD_eq_getElem?_getD, hx]
      rfl)
end

theorem Sx.back {g g' h : Heap} {L : Addr} {ns : List Str} {vs : List (Option Value)} {nw : Nw} (F : Sx g' L h ns vs nw) (k : Kp g g') : Sx g L h ns vs nw := by
  have no : ∀ b, g'.get? b = none → g.get? b = none := fun b e => by
    cases q : g.get? b with
    | none => rfl
    | some o => rw [k _ _ q] at e; cases e
  exact ⟨F.loc, k.tr F.keep, no _ F.noL, fun p hp => ⟨(F.news p hp).1, (F.news p hp).2.1, no _ (F.news p hp).2.2⟩, F.nd⟩
section
variable {prog : Program} {w : World} {A : Around} {E : Value → Shared → Prop} {s : Shared} {env : Env} {g : Heap} {L : Addr} {ns gs : List Str} {vs : List (Option Value)} {nw : Nw} {a0 a1 a2 a3 a4 a5 a6 a7 : Option Value}
theorem rngN {sH : Heap} {sG : Array GenState} {sD : Drawn} {sT : Nat} {sO : OsState} {n : Nat} {t : Tok} {Q : Value → Shared → Prop} (F : Sx g L sH ns vs nw) (hn : n < 1000)
    (h : ∀ it h' t', Sx g L h' ns vs ((it, isRg 0 1 n 0) :: nw) → Q (.ref it) ⟨h', sG, sD, t', sO⟩) : wpAny (model prog w) A (call (.type "range") [.int n t]) (fun x s₁ => wpAny (model prog w) A (pyIter x) Q E s₁) E ⟨sH, sG, sD, sT, sO⟩ := by
  refine crange1 (n := n) F fun r h2 t2 F2 => ?_
  refine iter_range (a := 0) (b := n) (n := n) F2 List.mem_cons_self (by simp) (by decide) (by decide) (by first | with_reducible assumption | with_reducible exact lt5 (by assumption) | omega) fun it h3 F3 => ?_
  refine h it h3 _ (F3.pick (fun p hp => ?_) ?_)
  · rcases List.mem_cons.mp hp with rfl | hp
    · exact List.mem_cons_self
    · exact List.mem_cons_of_mem _ (List.mem_cons_of_mem _ hp)
  · have nd := F3.nd
    rw [List.map_cons, List.map_cons] at nd
    rw [List.map_cons]
    have n1 := List.nodup_cons.mp nd
    exact List.nodup_cons.mpr ⟨fun q => n1.1 (List.mem_cons_of_mem _ q), (List.nodup_cons.mp n1.2).2⟩
theorem wAll_succ (l2 : List Nat) (m : Nat → Nat → Bool) (p : Nat → Nat) (N : Nat) : wAll l2 m p (N + 1) = (wAll l2 m p N && (List.range N).all fun a => wIn l2 m p N a) := by
  unfold wAll
  rw [List.range_succ, List.all_append]; simp
theorem pAny_succ (m : Nat → Nat → Bool) (p : Nat → Nat) (N : Nat) : pAny m p (N + 1) = (pAny m p N || (List.range N).any fun a => (List.range (N - (a + 1))).any fun c => pJ m p N a (a + 1 + c)) := by
  unfold pAny
  rw [List.range_succ, List.any_append]; simp
theorem all_snoc {p : Nat → Bool} (n : Nat) : (List.range (n + 1)).all p = ((List.range n).all p && p n) := by
  rw [List.range_succ, List.all_append]; simp
theorem any_snoc {p : Nat → Bool} (n : Nat) : (List.range (n + 1)).any p = ((List.range n).any p || p n) := by
  rw [List.range_succ, List.any_append]; simp
theorem law_s14 (C : En env lns lgs) (F : Sx g env.locals s.heap lns [a0, a1, a2, a3, a4, a5, a6, a7, none, none, none, none, none] nw)
    {Q : Flow → Shared → Prop} (kont : ∀ h t, Sx g env.locals h lns [a0, a1, a2, a3, a4, a5, a6, a7, some (.bool true), none, none, none, none] nw → Q .next { s with heap := h, toks := t }) :
    wpAny (model prog w) A (exec (lawSt 14) env) Q E s := by
  refine s_asg (by with_unfolding_all rfl) ?_
  exact wpAny_Assign_Name <| k_bool <| st F C fun h1 t1 F1 => kont _ _ F1
theorem law_s15 (C : En env lns lgs) (F : Sx g env.locals s.heap lns [a0, a1, a2, a3, a4, a5, a6, a7, some (.bool true), none, none, none, none] nw)
    {Q : Flow → Shared → Prop} (kont : ∀ h t, Sx g env.locals h lns [a0, a1, a2, a3, a4, a5, a6, a7, some (.bool true), some (.bool false), none, none, none] nw → Q .next { s with heap := h, toks := t }) :
    wpAny (model prog w) A (exec (lawSt 15) env) Q E s := by
  refine s_asg (by with_unfolding_all rfl) ?_
  exact wpAny_Assign_Name <| k_bool <| st F C fun h1 t1 F1 => kont _ _ F1
theorem law_s16 {lf pl : Addr} {l2 : List Nat} {tk : Tok} {m : Nat → Nat → Bool} {T : List Nat} {pv : List Value} (hA : Ar A 4) (C : En env lns lgs) (G : Gk w g)
    (F : Sx g env.locals s.heap lns [a0, a1, some (.ref lf), a3, a4, a5, some (.str (txt l2) tk), some (.ref pl), some (.bool true), some (.bool false), none, none, none] []) (M : Mat g lf m) (hpl : Hl g pl pv) (hpv : IntsAre pv (T.map fun k : Nat => (k : Int)))
    (hT : T.length = 5) (hm : ∀ k ∈ T, k < 5) (hl2 : l2.length ≤ 1000)
    {Q : Flow → Shared → Prop} (kont : ∀ h t o1 o2 o3, Sx g env.locals h lns [a0, a1, some (.ref lf), a3, a4, a5, some (.str (txt l2) tk), some (.ref pl), some (.bool (wAll l2 m (fun n => T.getD n 0) 5)), some (.bool (pAny m (fun n => T.getD n 0) 5)), o1, o2, o3] [] → Q .next { s with heap := h, toks := t }) :
    wpAny (model prog w) A (exec (lawSt 16) env) Q E s := by
  have hP : ∀ i, i < 5 → T.getD i 0 < 5 ∧ ∃ t, pv[i]? = some (.int (T.getD i 0 : Nat) t) := fun i hi => by
    have e : T[i]? = some (T.getD i 0) := by rw [List.getD_eq_getElem?_getD, List.getElem?_eq_getElem (by first | with_reducible assumption | with_reducible exact lt5 (by assumption) | omega)]; rfl
    exact ⟨hm _ (List.mem_of_getElem? e), ints_get hpv (by rw [List.getElem?_map, e]; rfl)⟩
  have hpl5 : pv.length = 5 := by have := ints_len hpv; simpa [hT] using this
  obtain ⟨P, hPe⟩ : ∃ P : Nat → Nat, P = fun n => T.getD n 0 := ⟨_, rfl⟩
  replace hP : ∀ i, i < 5 → P i < 5 ∧ ∃ t, pv[i]? = some (.int (P i : Nat) t) := by rw [hPe]; exact hP
  rw [← hPe] at kont
  clear hPe
  clear hm hpv hT
  obtain ⟨rs, hl, hn5, hr⟩ := id M
  refine s_for (by with_unfolding_all rfl) ?_
  refine wpAny_For <| ctyp F.keep C (g_range G) <| args_cons <| k_int fun _ _ => args_nil ?_
  refine rng5 F fun it h1 t1 F1 => ?_
  try dsimp only
  refine for_in (gen_range prog w 0 1 5) (σ := Bool × Bool × Option Value × Option Value × Option Value)
    (fun p => [a0, a1, some (.ref lf), a3, a4, a5, some (.str (txt l2) tk), some (.ref pl), some (.bool p.1), some (.bool p.2.1), p.2.2.1, p.2.2.2.1, p.2.2.2.2])
    (fun p v => [a0, a1, some (.ref lf), a3, a4, a5, some (.str (txt l2) tk), some (.ref pl), some (.bool p.1), some (.bool p.2.1), some v, p.2.2.2.1, p.2.2.2.2])
    (fun _ => []) (fun n p => p.1 = wAll l2 m P n ∧ p.2.1 = pAny m P n) (true, false, none, none, none) hA.1 C (fun _ _ => trivial) F1 ⟨rfl, rfl⟩ (fun p v => by walk_at "put") ?_ ?_
  · rintro n ⟨wh, pa, o1, o2, o3⟩ v h2 t2 hn ⟨hw, hp⟩ hv F2
    refine opq fun Q1 E1 hQ1 _ => ?_
    obtain ⟨kn, rfl⟩ := val0 hv
    try dsimp only at F2 hw hp
    obtain ⟨pn5, tn, en⟩ := hP n hn
    refine wpAny_execs_cons <| wpAny_For <| ctyp F2.keep C (g_range G) <| args_cons <| ld F2 C (by with_reducible repeat (first | exact At.hd | apply At.tl)) <| args_nil ?_
    refine rngN (n := n) F2 (by first | with_reducible assumption | with_reducible exact lt5 (by assumption) | omega) fun it2 h3 t3 F3 => ?_
    try dsimp only
    refine for_in (gen_range prog w 0 1 n) (σ := Bool × Bool × Option Value × Option Value)
      (fun p => [a0, a1, some (.ref lf), a3, a4, a5, some (.str (txt l2) tk), some (.ref pl), some (.bool p.1), some (.bool p.2.1), some (.int n kn), p.2.2.1, p.2.2.2])
      (fun p v => [a0, a1, some (.ref lf), a3, a4, a5, some (.str (txt l2) tk), some (.ref pl), some (.bool p.1), some (.bool p.2.1), some (.int n kn), some v, p.2.2.2])
      (fun _ => [(it, isRg 0 1 5 (n + 1))]) (fun a p => p.1 = (wAll l2 m P n && (List.range a).all fun a => wIn l2 m P n a) ∧ p.2.1 = (pAny m P n || (List.range a).any fun a => (List.range (n - (a + 1))).any fun c => pJ m P n a (a + 1 + c)))
      (wh, pa, o2, o3) hA.1 C (fun _ _ => trivial) F3 ⟨by simpa using hw, by simpa using hp⟩ (fun p v => by walk_at "put") ?_ ?_
    · rintro a ⟨wh, pa, o2, o3⟩ v h4 t4 ha ⟨hw, hp⟩ hv F4
      refine opq fun Q1 E1 hQ1 _ => ?_
      obtain ⟨ka, rfl⟩ := val0 hv
      try dsimp only at F4 hw hp
      obtain ⟨pa5, ta, ea⟩ := hP a (by first | with_reducible assumption | with_reducible exact lt5 (by assumption) | omega)
      obtain ⟨ra, era, hra⟩ := hr (P a) pa5
      refine mid (fun s' => ∃ h t, s' = { s with heap := h, toks := t } ∧ Sx g env.locals h lns [a0, a1, some (.ref lf), a3, a4, a5, some (.str (txt l2) tk), some (.ref pl), some (.bool (wh && wIn l2 m P n a)), some (.bool pa), some (.int n kn), some (.int a ka), o3] [(it2, isRg 0 1 n (a + 1)), (it, isRg 0 1 5 (n + 1))]) ?_ ?_
      · refine opq fun Q2 E2 hQ2 _ => ?_
        refine wpAny_If <| wpAny_isTrue_Compare1 <| cdef F4.keep C (g_comes G) (fn155 G) <| args_cons <| ld F4 C (by with_reducible repeat (first | exact At.hd | apply At.tl)) <| args_cons <| Subscript_ <| ld F4 C (by with_reducible repeat (first | exact At.hd | apply At.tl)) <| ld F4 C (by with_reducible repeat (first | exact At.hd | apply At.tl)) <| itemn (hpl.kp F4.keep) (by first | with_reducible assumption | with_reducible exact lt5 (by assumption) | omega) ea <| args_cons <| Subscript_ <| ld F4 C (by with_reducible repeat (first | exact At.hd | apply At.tl)) <| ld F4 C (by with_reducible repeat (first | exact At.hd | apply At.tl)) <| itemn (hpl.kp F4.keep) (by first | with_reducible assumption | with_reducible exact lt5 (by assumption) | omega) en <|
          args_nil ⟨F4.keep, use (law_comes (hA.le (by decide)) (G.kp F4.keep) hl2 pa5 pn5) fun v h5 t5 hv => ?_⟩
        obtain ⟨k5, rfl⟩ := hv
        have F5 := F4.call k5
        refine Subscript_ <| Subscript_ <| ld F5 C (by with_reducible repeat (first | exact At.hd | apply At.tl)) <| Subscript_ <| ld F5 C (by with_reducible repeat (first | exact At.hd | apply At.tl)) <| ld F5 C (by with_reducible repeat (first | exact At.hd | apply At.tl)) <| itemn (hpl.kp F5.keep) (by first | with_reducible assumption | with_reducible exact lt5 (by assumption) | omega) ea <| itemn (hl.kp F5.keep) (by first | with_reducible assumption | with_reducible exact lt5 (by assumption) | omega) era <| Subscript_ <| ld F5 C (by with_reducible repeat (first | exact At.hd | apply At.tl)) <| ld F5 C (by with_reducible repeat (first | exact At.hd | apply At.tl)) <| itemn (hpl.kp F5.keep) (by first | with_reducible assumption | with_reducible exact lt5 (by assumption) | omega) en <| itemn (hra.kp F5.keep) (by first | with_reducible assumption | with_reducible exact lt5 (by assumption) | omega) (map5 _ pn5) <| b_ne <| wpAny_truthy_bool ?_
        have ew : wIn l2 m P n a = (comesP l2 (97 + P a) (97 + P n) == m (P a) (P n)) := rfl
        cases q : (comesP l2 (97 + P a) (97 + P n) == m (P a) (P n)) with
        | true =>
          rw [if_neg (by decide)]
          exact wpAny_execs_nil (hQ2 _ _ ⟨rfl, _, _, rfl, by rw [ew, q, Bool.and_true]; exact F5⟩)
        | false =>
          rw [if_pos (by decide)]
          refine wpAny_execs_cons <| wpAny_Assign_Name <| k_bool <| st F5 C fun h6 t6 F6 => ?_
          try dsimp only
          exact wpAny_execs_nil (hQ2 _ _ ⟨rfl, _, _, rfl, by rw [ew, q, Bool.and_false]; exact F6⟩)
      · rintro s' ⟨h6, t6, rfl, F6⟩
        have es : slicePick pv.toArray (some ((a : Int) + 1)) (some (n : Int)) none = ((pv.drop (a + 1)).take (n - (a + 1))).toArray := by
          rw [show (a : Int) + 1 = ((a + 1 : Nat) : Int) by omega]
          exact slicePick_run pv.toArray (a + 1) n (by simp; omega) (by first | with_reducible assumption | with_reducible exact lt5 (by assumption) | omega)
        refine wpAny_execs_cons <| wpAny_For <| Subscript_ <| ld F6 C (by with_reducible repeat (first | exact At.hd | apply At.tl)) <| wpAny_Slice <| sl_some <| wpAny_BinOp <| ld F6 C (by with_reducible repeat (first | exact At.hd | apply At.tl)) <| k_int fun _ _ => i_add fun _ _ => sl_some <| ld F6 C (by with_reducible repeat (first | exact At.hd | apply At.tl)) <| sl_none ?_
        refine sl_l F6 (hpl.kp F6.keep) (.int _ _) (.int _ _) (by first | with_reducible assumption | with_reducible exact lt5 (by assumption) | omega) fun r h7 F7 => ?_
        rw [es] at F7
        obtain ⟨g', kg, hr7, F8⟩ := F7.fz
        have hr8 : Hl g' r ((pv.drop (a + 1)).take (n - (a + 1))) := hr7
        have hlen : ((pv.drop (a + 1)).take (n - (a + 1))).length = n - (a + 1) := by simp; omega
        refine iter_list F8 (hr8.kp F8.keep).is fun it3 h9 F9 => ?_
        try dsimp only
        generalize hwh : (wh && wIn l2 m P n a) = wh' at *
        refine for_in (gen_list prog w r ((pv.drop (a + 1)).take (n - (a + 1)))) (σ := Bool × Option Value)
          (fun p => [a0, a1, some (.ref lf), a3, a4, a5, some (.str (txt l2) tk), some (.ref pl), some (.bool wh'), some (.bool p.1), some (.int n kn), some (.int a ka), p.2])
          (fun p v => [a0, a1, some (.ref lf), a3, a4, a5, some (.str (txt l2) tk), some (.ref pl), some (.bool wh'), some (.bool p.1), some (.int n kn), some (.int a ka), some v])
          (fun _ => [(it2, isRg 0 1 n (a + 1)), (it, isRg 0 1 5 (n + 1))]) (fun c p => p.1 = (pa || (List.range c).any fun c => pJ m P n a (a + 1 + c))) (pa, o3) hA.1 C (fun h k => (hr8.kp k).is) F9 (by simp) (fun p v => by walk_at "put") ?_ ?_
        · rintro c ⟨pb, o3⟩ v h10 t10 hc hpb hv F10
          refine opq fun Q1 E1 hQ1 _ => ?_
          rw [hlen] at hc
          have hv' : pv[a + 1 + c]? = some v := by
            rw [List.getElem?_take, if_pos hc, List.getElem?_drop] at hv
            exact hv
          obtain ⟨pc5, tc, ec⟩ := hP (a + 1 + c) (by first | with_reducible assumption | with_reducible exact lt5 (by assumption) | omega)
          rw [ec] at hv'
          cases hv'
          try dsimp only at F10 hpb
          obtain ⟨rc, erc, hrc⟩ := hr (P (a + 1 + c)) pc5
          have k10 := kg.tr F10.keep
          have eJ : pJ m P n a (a + 1 + c) = (m (P a) (P n) && !m (P a) (P (a + 1 + c)) && !m (P (a + 1 + c)) (P n)) := rfl
          refine wpAny_execs_cons <| wpAny_If <| t_bool <| all_cons <| isTrue_plain <| Subscript_ <| Subscript_ <| ld F10 C (by with_reducible repeat (first | exact At.hd | apply At.tl)) <| Subscript_ <| ld F10 C (by with_reducible repeat (first | exact At.hd | apply At.tl)) <| ld F10 C (by with_reducible repeat (first | exact At.hd | apply At.tl)) <| itemn (hpl.kp k10) (by first | with_reducible assumption | with_reducible exact lt5 (by assumption) | omega) ea <| itemn (hl.kp k10) (by first | with_reducible assumption | with_reducible exact lt5 (by assumption) | omega) era <| Subscript_ <| ld F10 C (by with_reducible repeat (first | exact At.hd | apply At.tl)) <| ld F10 C (by with_reducible repeat (first | exact At.hd | apply At.tl)) <| itemn (hpl.kp k10) (by first | with_reducible assumption | with_reducible exact lt5 (by assumption) | omega) en <| itemn (hra.kp k10) (by first | with_reducible assumption | with_reducible exact lt5 (by assumption) | omega) (map5 _ pn5) <| wpAny_truthy_bool ?_
          cases q1 : m (P a) (P n) with
          | false =>
            rw [if_neg (by decide), if_neg (by decide)]
            refine wpAny_execs_nil ?_
            try dsimp only
            exact wpAny_execs_nil (hQ1 _ _ ⟨_, _, (_, _), rfl, by rw [any_snoc, eJ, q1]; simpa using hpb, F10⟩)
          | true =>
            rw [if_pos rfl]
            refine all_cons <| t_not <| isTrue_plain <| Subscript_ <| Subscript_ <| ld F10 C (by with_reducible repeat (first | exact At.hd | apply At.tl)) <| Subscript_ <| ld F10 C (by with_reducible repeat (first | exact At.hd | apply At.tl)) <| ld F10 C (by with_reducible repeat (first | exact At.hd | apply At.tl)) <| itemn (hpl.kp k10) (by first | with_reducible assumption | with_reducible exact lt5 (by assumption) | omega) ea <| itemn (hl.kp k10) (by first | with_reducible assumption | with_reducible exact lt5 (by assumption) | omega) era <| ld F10 C (by with_reducible repeat (first | exact At.hd | apply At.tl)) <| itemn (hra.kp k10) (by first | with_reducible assumption | with_reducible exact lt5 (by assumption) | omega) (map5 _ pc5) <| wpAny_truthy_bool ?_
            cases q2 : m (P a) (P (a + 1 + c)) with
            | true =>
              rw [if_neg (by decide), if_neg (by decide)]
              refine wpAny_execs_nil ?_
              try dsimp only
              exact wpAny_execs_nil (hQ1 _ _ ⟨_, _, (_, _), rfl, by rw [any_snoc, eJ, q1, q2]; simpa using hpb, F10⟩)
            | false =>
              rw [if_pos (by decide)]
              refine all_cons <| t_not <| isTrue_plain <| Subscript_ <| Subscript_ <| ld F10 C (by with_reducible repeat (first | exact At.hd | apply At.tl)) <| ld F10 C (by with_reducible repeat (first | exact At.hd | apply At.tl)) <| itemn (hl.kp k10) (by first | with_reducible assumption | with_reducible exact lt5 (by assumption) | omega) erc <| Subscript_ <| ld F10 C (by with_reducible repeat (first | exact At.hd | apply At.tl)) <| ld F10 C (by with_reducible repeat (first | exact At.hd | apply At.tl)) <| itemn (hpl.kp k10) (by first | with_reducible assumption | with_reducible exact lt5 (by assumption) | omega) en <| itemn (hrc.kp k10) (by first | with_reducible assumption | with_reducible exact lt5 (by assumption) | omega) (map5 _ pn5) <| wpAny_truthy_bool ?_
              cases q3 : m (P (a + 1 + c)) (P n) with
              | true =>
                rw [if_neg (by decide), if_neg (by decide)]
                refine wpAny_execs_nil ?_
                try dsimp only
                exact wpAny_execs_nil (hQ1 _ _ ⟨_, _, (_, _), rfl, by rw [any_snoc, eJ, q1, q2, q3]; simpa using hpb, F10⟩)
              | false =>
                rw [if_pos (by decide)]
                refine all_nil ?_
                rw [if_pos rfl]
                refine wpAny_execs_cons <| wpAny_Assign_Name <| k_bool <| st F10 C fun h11 t11 F11 => ?_
                try dsimp only
                refine wpAny_execs_nil ?_
                try dsimp only
                exact wpAny_execs_nil (hQ1 _ _ ⟨_, _, (_, _), rfl, by rw [any_snoc, eJ, q1, q2, q3]; simp, F11⟩)
        · rintro ⟨pb, o3⟩ h10 t10 hpb F10
          try dsimp only at F10 hpb ⊢
          rw [hlen] at hpb
          refine wpAny_execs_nil (hQ1 _ _ ⟨_, _, (_, _, _, _), rfl, ⟨?_, ?_⟩, F10.back kg⟩)
          · rw [all_snoc, ← hwh, hw, Bool.and_assoc]
          · rw [any_snoc, hpb, hp, Bool.or_assoc]
    · rintro ⟨wh, pa, o2, o3⟩ h4 t4 ⟨hw, hp⟩ F4
      try dsimp only at F4 hw hp ⊢
      exact wpAny_execs_nil (hQ1 _ _ ⟨_, _, (_, _, _, _, _), rfl, ⟨by rw [wAll_succ]; exact hw, by rw [pAny_succ]; exact hp⟩, F4⟩)
  · rintro ⟨wh, pa, o1, o2, o3⟩ h2 t2 ⟨hw, hp⟩ F2
    try dsimp only at F2 hw hp ⊢
    rw [hw, hp] at F2
    exact kont _ _ _ _ _ F2
theorem law_s17 {wh pa : Bool} {b0 b1 b2 : Option Value} (C : En env lns lgs) (F : Sx g env.locals s.heap lns [a0, a1, a2, a3, a4, a5, a6, a7, some (.bool wh), some (.bool pa), b0, b1, b2] nw) {Q : Flow → Shared → Prop} (h : Q (.ret (.bool (!(wh == pa)))) s) :
    wpAny (model prog w) A (exec (lawSt 17) env) Q E s := by
  refine s_ret (by with_unfolding_all rfl) ?_
  exact wpAny_Return_some <| wpAny_Compare1 <| ld F C (by with_reducible repeat (first | exact At.hd | apply At.tl)) <| ld F C (by with_reducible repeat (first | exact At.hd | apply At.tl)) <| b_ne h
end

theorem lead_nat (n : Int) : ∃ i, i < 31 ∧ leadOf n = leadL (i + 1) := by
  refine ⟨(n.fmod 31).toNat, ?_, rfl⟩
  have h : n.fmod 31 < 31 := by rw [Int.fmod_eq_emod_of_nonneg _ (by decide)]; omega
  omega
theorem lead_small (n : Int) : Small (rowB (leadOf n)) = true ∧ (leadOf n).length ≤ 30 ∧ (leadOf n).all (· < 128) = true := by
  obtain ⟨i, hi, e⟩ := lead_nat n
  have h := List.all_eq_true.mp leads_small i (List.mem_range.mpr hi)
  simp only [Bool.and_eq_true, decide_eq_true_eq] at h
  rw [e]
  exact ⟨h.1.1, h.2, h.1.2⟩
theorem lead_eq (n k : Int) : lessP (rowB (leadOf n)) (rowB (leadOf k)) = leftB (leadOf n) (leadOf k) := by
  obtain ⟨i, hi, e⟩ := lead_nat n
  obtain ⟨j, hj, e'⟩ := lead_nat k
  have h := List.all_eq_true.mp (List.all_eq_true.mp leads_all i (List.mem_range.mpr hi)) j (List.mem_range.mpr hj)
  rw [e, e']
  exact beq_iff_eq.mp h
theorem left_strict (X : Nat → List Nat) : Strict fun i k => leftB (X i) (X k) := by
  constructor
  · intro i _
    simp [leftB, colsOf]
  · intro i j k _ _ _ h1 h2
    simp only [leftB, colsOf, List.zipWith_cons_cons, List.zipWith_nil_right, List.all_cons, List.all_nil, Bool.and_true, Bool.and_eq_true, decide_eq_true_eq] at h1 h2 ⊢
    omega
theorem idx_map (T : List Nat) (k : Nat) : (T.map (97 + ·)).idxOf (97 + k) = T.idxOf k := by
  induction T with
  | nil => rfl
  | cons a r ih =>
    rw [List.map_cons, List.idxOf_cons, List.idxOf_cons, ih]
    by_cases e : a = k
    · subst e; simp
    · have h1 : (a == k) = false := beq_eq_false_iff_ne.mpr e
      have h2 : (97 + a == 97 + k) = false := beq_eq_false_iff_ne.mpr (by first | with_reducible assumption | with_reducible exact lt5 (by assumption) | omega)
      rw [h1, h2]
theorem lawB_eq : lawB = [lawSt 0, lawSt 1, lawSt 2, lawSt 3, lawSt 4, lawSt 5, lawSt 6, lawSt 7, lawSt 8, lawSt 9, lawSt 10, lawSt 11, lawSt 12, lawSt 13, lawSt 14, lawSt 15, lawSt 16, lawSt 17] := by
  with_unfolding_all rfl
section
variable {prog : Program} {w : World} {A : Around} {s : Shared}
theorem law_run {sl : Addr} {vs : List Value} {ns : List Int} (hA : Ar A 6) (G : Gk w s.heap) (hl : s.heap.IsList sl vs.toArray) (hi : IntsAre vs ns) (hn : ns.length ≤ 63) :
    codeAny (model prog w) A (.call (.ref 167) ⟨[.ref sl], []⟩) (Ends s fun v h => Kp s.heap h ∧ v = .bool true) s := by
  refine enterc (body := lawB) ["script"] lgs lns ["first", "rows", "columns", "told"] [some (.ref sl), none, none, none, none, none, none, none, none, none, none, none, none]
    (fun L => [("first", L + 4), ("rows", L + 3), ("columns", L + 2), ("told", L + 1)]) [none, none, none, none] hA.room (fn167 G) G.nolimit (by with_unfolding_all rfl) (by with_unfolding_all rfl) (by with_unfolding_all rfl)
    (fun x hx => ?_) (by decide +kernel) (by decide +kernel) (by decide +kernel) (fun L => by with_unfolding_all rfl) (fun L => rfl) (by decide) (fun y => ?_) (by with_unfolding_all rfl) (fun env AA h₀ t₀ hAA C KC hcell F => ?_)
  · rcases List.mem_cons.mp hx with rfl | hx
    · exact .inl (by with_unfolding_all rfl)
    · cases hx
  · have e : lk lns [some (.ref sl), none, none, none, none, none, none, none, none, none, none, none, none] y = if y = ("script" : Str) then some (.ref sl) else none := by
      show (if y = ("script" : Str) then some (Value.ref sl) else lk ["leads", "left", "ahead", "keys", "late", "last", "places", "whole", "parted", "n", "m", "j"] ((["leads", "left", "ahead", "keys", "late", "last", "places", "whole", "parted", "n", "m", "j"] : List Str).map fun _ => none) y) = _
      rw [lk_none]
    rw [e]
    with_unfolding_all rfl
  refine opq fun QQ EE hQQ _ => ?_
  have hA' := hAA (fun a => Ar a _) (hA.deeper env)
  have Kf : Ce env "first" (env.locals + 4) := KC "first" (by simp) _ (by rw [hcell]; rfl)
  have Kr : Ce env "rows" (env.locals + 3) := KC "rows" (by simp) _ (by rw [hcell]; rfl)
  have Kc : Ce env "columns" (env.locals + 2) := KC "columns" (by simp) _ (by rw [hcell]; rfl)
  have Kt : Ce env "told" (env.locals + 1) := KC "told" (by simp) _ (by rw [hcell]; rfl)
  generalize env.locals + 4 = cf at Kf F
  generalize env.locals + 3 = cr at Kr F
  generalize env.locals + 2 = cc at Kc F
  generalize env.locals + 1 = ct at Kt F
  have nd := F.nd
  have F0 := F.pick (nw' := [(ct, isC none), (cc, isC none), (cr, isC none), (cf, isC none)]) (fun p hp => by
      simp only [List.mem_cons, List.not_mem_nil, or_false] at hp
      rcases hp with rfl | rfl | rfl | rfl
      · exact List.mem_cons_of_mem _ (List.mem_cons_of_mem _ (List.mem_cons_of_mem _ List.mem_cons_self))
      · exact List.mem_cons_of_mem _ (List.mem_cons_of_mem _ List.mem_cons_self)
      · exact List.mem_cons_of_mem _ List.mem_cons_self
      · exact List.mem_cons_self)
    (by
      have := ((List.reverse_perm _).nodup_iff).mpr nd
      exact this)
  clear F nd KC hcell
  rw [lawB_eq]
  refine wpAny_execs_cons <| law_s0 C Kt G F0 hl hi hn fun g1 h1 t1 lt tv kg1 F1 hct hlt hti => ?_
  try dsimp only
  clear F0
  have hn5 := toldL_len ns
  generalize toldL ns = tl at hti hn5
  have G1 := G.kp kg1
  refine wpAny_execs_cons <| law_s1 (hA'.le (by decide)) C Kt G1 F1 hct hlt hti hn5 fun g2 h2 t2 ll lv kg2 F2 hll hlv => ?_
  try dsimp only
  clear F1
  have G2 := G1.kp kg2
  have sm : ∀ j, j < 5 → (leadOf (tl.getD j 0)).length ≤ 30 ∧ (leadOf (tl.getD j 0)).all (· < 128) = true := fun j _ => (lead_small _).2
  have sm2 : ∀ j, j < 5 → Small (rowB (leadOf (tl.getD j 0))) = true := fun j _ => (lead_small _).1
  have me : (fun i k => lessP (rowB (leadOf (tl.getD i 0))) (rowB (leadOf (tl.getD k 0)))) = fun i k => leftB (leadOf (tl.getD i 0)) (leadOf (tl.getD k 0)) := funext fun i => funext fun k => lead_eq _ _
  have S : Strict fun i k => leftB (leadOf (tl.getD i 0)) (leadOf (tl.getD k 0)) := left_strict fun i => leadOf (tl.getD i 0)
  refine wpAny_execs_cons <| law_s2 (X := fun j => leadOf (tl.getD j 0)) (hA'.le (by decide)) C Kc G2 F2 hll hlv sm fun g3 h3 t3 lc cv kg3 F3 hcc hlc hcv => ?_
  try dsimp only
  clear F2
  have G3 := G2.kp kg3
  refine wpAny_execs_cons <| law_s3 (X := fun j => leadOf (tl.getD j 0)) (hA'.le (by decide)) C Kc G3 F3 hcc hlc hcv fun g4 h4 t4 lf kg4 F4 ML => ?_
  try dsimp only
  clear F3
  have G4 := G3.kp kg4
  have k24 := kg3.tr kg4
  refine wpAny_execs_cons <| law_s4 (X := fun j => leadOf (tl.getD j 0)) (hA'.le (by decide)) C Kr G4 F4 (hll.kp k24) (hlv.kp (fun _ _ _ _ _ p => p) k24) sm fun g5 h5 t5 lr wv kg5 F5 hcr hlr hwv => ?_
  try dsimp only
  clear F4
  have G5 := G4.kp kg5
  refine wpAny_execs_cons <| law_s5 (X := fun j => leadOf (tl.getD j 0)) (hA'.le (by decide)) C Kr G5 F5 hcr hlr hwv sm2 fun g6 h6 t6 la kg6 F6 MA => ?_
  try dsimp only
  clear F5
  have G6 := G5.kp kg6
  rw [me] at MA
  clear me
  generalize (fun i k => leftB (leadOf (tl.getD i 0)) (leadOf (tl.getD k 0))) = m at ML MA S
  have ML6 := (ML.kp kg5).kp kg6
  refine wpAny_execs_cons <| law_s6 (hA'.le (by decide)) C F6 ML6 MA fun h7 t7 F7 => ?_
  try dsimp only
  clear F6
  have k16 := (k24.tr kg5).tr kg6
  have k06 := kg2.tr k16
  refine wpAny_execs_cons <| law_s7 (hA'.le (by decide)) C Kt G6 F7 (hct.kp k06) (hlt.kp k06) hti hn5 fun g8 h8 t8 kl K kf kg8 F8 KS => ?_
  try dsimp only
  clear F7
  have G8 := G6.kp kg8
  have ML8 := ML6.kp kg8
  have MA8 := MA.kp kg8
  refine wpAny_execs_cons <| law_s8 hA' C Kf G8 F8 MA8 KS fun g9 h9 t9 T tk kg9 F9 hcf GT DT => ?_
  try dsimp only
  clear F8
  have G9 := G8.kp kg9
  have ML9 := ML8.kp kg9
  have MA9 := MA8.kp kg9
  have KS9 := KS.kp kg9
  have all := greedy_all S GT DT
  have pT := perm_five GT.nd GT.lt all
  have hT5 : T.length = 5 := pT.length_eq
  have pT' : (T.map (97 + ·)).Perm abc := pT.map (97 + ·)
  refine wpAny_execs_cons <| law_s9 hA' C Kf G9 F9 hcf ML9 KS9 pT' (told_plain S GT all) fun h10 t10 F10 => ?_
  try dsimp only
  clear F9
  refine wpAny_execs_cons <| law_s10 (hA'.le (by decide)) C Kf G9 F10 hcf (fun k hk => List.mem_map_of_mem (f := (97 + ·)) (all k hk)) fun g11 h11 t11 kl2 kf2 kg11 F11 KS2 => ?_
  try dsimp only
  clear F10
  have G11 := G9.kp kg11
  have ML11 := ML9.kp kg11
  have MA11 := MA9.kp kg11
  have hcf11 := hcf.kp kg11
  have hK2 : (fun k : Nat => -(((T.map (97 + ·)).idxOf (97 + k) : Nat) : Int)) = fun k : Nat => -((T.idxOf k : Nat) : Int) := funext fun k => by rw [idx_map]
  rw [hK2] at KS2
  clear hK2
  refine wpAny_execs_cons <| law_s11 hA' C G11 F11 MA11 KS2 fun h12 t12 T2 tk2 F12 GT2 DT2 => ?_
  try dsimp only
  clear F11
  have all2 := greedy_all S GT2 DT2
  have pT2 := perm_five GT2.nd GT2.lt all2
  refine wpAny_execs_cons <| law_s12 hA' C G11 F12 ML11 KS2 (pT2.map (97 + ·)) (told_plain S GT2 all2) fun h13 t13 F13 => ?_
  try dsimp only
  clear F12
  refine wpAny_execs_cons <| law_s13 (hA'.le (by decide)) C Kf G11 F13 hcf11 GT.lt hT5 fun g14 h14 t14 pl pv kg14 F14 hpl hpv => ?_
  try dsimp only
  clear F13
  refine wpAny_execs_cons <| law_s14 C F14 fun h15 t15 F15 => ?_
  try dsimp only
  refine wpAny_execs_cons <| law_s15 C F15 fun h16 t16 F16 => ?_
  try dsimp only
  refine wpAny_execs_cons <| law_s16 (hA'.le (by decide)) C (G11.kp kg14) F16 (ML11.kp kg14) hpl hpv hT5 GT.lt (by rw [List.length_map, pT2.length_eq]; decide) fun h17 t17 o1 o2 o3 F17 => ?_
  try dsimp only
  refine wpAny_execs_cons <| law_s17 C F17 ?_
  refine hQQ _ _ ⟨_, _, _, rfl, rfl, kg1.tr (k06.tr (kg8.tr (kg9.tr (kg11.tr (kg14.tr F17.keep))))), ?_⟩
  rw [whole_parted S GT.nd GT.lt hT5 all (fun k _ => rfl) GT2 all2]
  simp
end

theorem caller_ar : Ar callerA 6 := ⟨rfl, by decide +kernel, by decide +kernel⟩
theorem join : PySem.Challenge.rw_qj0006_01.Holds := hd (by
  intro w s₀ s₁ mg mb G Y fa o pm cd doc dV kV ho hd hcd hD hmg hg args vals as hpre hlay hrd hwl hlo
  have KX := kIn_of Y
  refine Ground.open G ?_
  intro T B D TE TW
  have e : fa = 167 := by
    have h1 := mg_of KX T.g (show nsIn (KK w.params) mainGlobals "law" = some (some (.ref 167)) by with_unfolding_all rfl)
    have h2 := hmg.symm.trans h1
    cases h2
    rfl
  subst e
  clear hd hcd hD hmg ho
  wrow_args hpre hlay hrd hwl hlo
  refine enter_call ?_
  refine codeAny_mono ?_ (fun _ _ g => GoodW.toG g)
  rename_i ns _ _ _ _ _ _ _ sl vs _ hL _ _ _ hI _ hc _
  refine codeAny_mono (law_run (ns := ns) caller_ar ⟨KX, mb, T.b, T.builtins⟩ hL hI (by omega)) ?_
  rintro r s' ⟨v, h', t', rfl, rfl, hk, rfl⟩
  refine ⟨.inl ⟨_, .bool true, [], rfl, fun cls => ?_, .bool _, ?_, fun _ => ⟨List.nodup_nil, fun a ha => nomatch ha⟩⟩, hk, rfl, hg⟩
  · with_unfolding_all rfl
  · with_unfolding_all rfl)

end Mine
theorem PySem.Challenge.cw_qj0006_01_holds : PySem.Challenge.rw_qj0006_01.Holds :=
  Mine.join
