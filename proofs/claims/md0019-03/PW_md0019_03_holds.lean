import PyProof.Rows.All
import Wide.All
import OpenK.AllK
import Wide.FinOn
import PySem.Challenge.RW_md0019_03
open PySem PySem.W PyProof.Rows PySem.Calls
set_option Elab.async false
set_option maxRecDepth 100000
set_option linter.unusedVariables false
namespace Mine
/-- everything of the one heap stands in the other -/
abbrev Ext (h h' : Heap) : Prop := ∀ b o, h.get? b = some o → h'.get? b = some o
theorem Ext.rfl' {h : Heap} : Ext h h := fun _ _ e => e
theorem Ext.trans {h₁ h₂ h₃ : Heap} (x : Ext h₁ h₂) (y : Ext h₂ h₃) : Ext h₁ h₃ := fun b o e => y b o (x b o e)
theorem Ext.none {h h' : Heap} {a : Addr} (x : Ext h h') (e : h'.get? a = .none) : h.get? a = .none := by
  cases q : h.get? a with
  | none => rfl
  | some o => rw [x _ _ q] at e; cases e
theorem Ext.push {h h' : Heap} (x : Ext h h') (o : Obj) : Ext h (h'.push o) := fun b o' e => Heap.get?_push_of_some o (x b o' e)
theorem Ext.of_push {h : Heap} (o : Obj) : Ext h (h.push o) := fun _ _ e => Heap.get?_push_of_some o e

/-- the frame at L: its names m, all of b as it was, and the call's own objects -/
structure Fx (b : Heap) (L : Addr) (h : Heap) (m : Str → Option Value) (own : List (Addr × Obj)) : Prop where
  ns : h.Ns L m
  keep : Ext b h
  lout : b.get? L = none
  has : ∀ p ∈ own, h.get? p.1 = some p.2
  out : ∀ p ∈ own, b.get? p.1 = none
  nodup : (L :: own.map (·.1)).Nodup

section
variable {b h h' : Heap} {L a : Addr} {m m' : Str → Option Value} {own own' : List (Addr × Obj)} {o o' : Obj}
theorem Fx.notL (F : Fx b L h m own) {p : Addr × Obj} (hp : p ∈ own) : p.1 ≠ L := fun e =>
  (List.nodup_cons.mp F.nodup).1 (List.mem_map.mpr ⟨p, hp, e⟩)
theorem Fx.store (F : Fx b L h m own) (hn : h'.Ns L m') (hs : Heap.SameBut L h h') : Fx b L h' m' own :=
  ⟨hn, fun c oc e => (hs.2 c (fun q => by rw [q, F.lout] at e; cases e)).trans (F.keep c oc e), F.lout, fun p hp => (hs.2 p.1 (F.notL hp)).trans (F.has p hp), F.out, F.nodup⟩
theorem Fx.ext (F : Fx b L h m own) (e : Ext h h') : Fx b L h' m own :=
  ⟨F.ns.keeps e, F.keep.trans e, F.lout, fun p hp => e _ _ (F.has p hp), F.out, F.nodup⟩
theorem Fx.head (F : Fx b L h m ((a, o) :: own)) : h.get? a = some o := F.has _ (.head _)
theorem Fx.head2 {a₂ : Addr} {o₂ : Obj} (F : Fx b L h m ((a, o) :: (a₂, o₂) :: own)) : h.get? a₂ = some o₂ := F.has _ (.tail _ (.head _))
theorem Fx.head3 {a₂ a₃ : Addr} {o₂ o₃ : Obj} (F : Fx b L h m ((a, o) :: (a₂, o₂) :: (a₃, o₃) :: own)) : h.get? a₃ = some o₃ := F.has _ (.tail _ (.tail _ (.head _)))
theorem Fx.drop (F : Fx b L h m ((a, o) :: own)) : Fx b L h m own :=
  ⟨F.ns, F.keep, F.lout, fun p hp => F.has p (.tail _ hp), fun p hp => F.out p (.tail _ hp), by
    have := F.nodup; simp only [List.map_cons, List.nodup_cons, List.mem_cons, not_or] at this ⊢; exact ⟨this.1.2, this.2.2⟩⟩
theorem Fx.perm (F : Fx b L h m own) (hp : own.Perm own') : Fx b L h m own' :=
  ⟨F.ns, F.keep, F.lout, fun p q => F.has p (hp.mem_iff.mpr q), fun p q => F.out p (hp.mem_iff.mpr q), ((hp.map _).cons L).nodup_iff.mp F.nodup⟩
theorem Fx.swap {p q : Addr × Obj} (F : Fx b L h m (p :: q :: own)) : Fx b L h m (q :: p :: own) := F.perm (.swap _ _ _)
theorem Fx.fresh (F : Fx b L h m own) : b.get? h.objs.size = none ∧ L ≠ h.objs.size ∧ ∀ p ∈ own, p.1 ≠ h.objs.size := by
  refine ⟨?_, Nat.ne_of_lt F.ns.lt, fun p hp => Nat.ne_of_lt (Heap.lt_size (F.has p hp))⟩
  cases q : b.get? h.objs.size with
  | none => rfl
  | some o => exact absurd (Heap.lt_size (F.keep _ _ q)) (Nat.lt_irrefl _)
theorem Fx.gain (F : Fx b L h m own) (e : Ext h h') (ha : h.get? a = none) (hal : h'.get? a = some o) : Fx b L h' m ((a, o) :: own) := by
  have F' := F.ext e
  refine ⟨F'.ns, F'.keep, F.lout, fun p hp => ?_, fun p hp => ?_, ?_⟩
  · rcases List.mem_cons.mp hp with rfl | hp
    · exact hal
    · exact F'.has p hp
  · rcases List.mem_cons.mp hp with rfl | hp
    · cases q : b.get? a with
      | none => rfl
      | some o => rw [F.keep _ _ q] at ha; cases ha
    · exact F.out p hp
  · have nd := F.nodup
    have hl : L ≠ a := fun q => by obtain ⟨oL, _, _, hL, _⟩ := F.ns; rw [q, ha] at hL; cases hL
    have ho : a ∉ own.map (·.1) := fun q => by
      obtain ⟨p, hp, e⟩ := List.mem_map.mp q
      have := F.has p hp
      rw [e, ha] at this; cases this
    simp only [List.map_cons, List.nodup_cons, List.mem_cons, not_or] at nd ⊢
    exact ⟨⟨hl, nd.1⟩, ho, nd.2⟩
theorem none_at_size (h : Heap) : h.get? h.objs.size = none := by
  cases q : h.get? h.objs.size with
  | none => rfl
  | some o => exact absurd (Heap.lt_size q) (Nat.lt_irrefl _)
theorem Fx.push (F : Fx b L h m own) (o : Obj) (ho : o.isFreed = false := by with_unfolding_all rfl) : Fx b L (h.push o) m ((h.objs.size, o) :: own) :=
  F.gain (.of_push o) (none_at_size h) (Heap.get?_push_size _ ho)
/-- one own object turned, all else kept -/
theorem Fx.turn (F : Fx b L h m ((a, o) :: own)) (e : ∀ c oc, c ≠ a → h.get? c = some oc → h'.get? c = some oc) (ha : h'.get? a = some o') : Fx b L h' m ((a, o') :: own) := by
  have hL : L ≠ a := fun q => F.notL (p := (a, o)) (.head _) q.symm
  obtain ⟨oL, es, ep, gL, r⟩ := F.ns
  refine ⟨⟨oL, es, ep, e _ _ hL gL, r⟩, fun c oc q => e c oc (fun z => ?_) (F.keep c oc q), F.lout, fun p hp => ?_, fun p hp => ?_, F.nodup⟩
  · have := F.out (a, o) (.head _); rw [z] at q; rw [q] at this; cases this
  · rcases List.mem_cons.mp hp with rfl | hp
    · exact ha
    · refine e _ _ (fun z => ?_) (F.has p (.tail _ hp))
      have nd := F.nodup
      simp only [List.map_cons, List.nodup_cons] at nd
      exact nd.2.1 (List.mem_map.mpr ⟨p, hp, z⟩)
  · rcases List.mem_cons.mp hp with rfl | hp
    · exact F.out (a, o) (.head _)
    · exact F.out p (.tail _ hp)
theorem Fx.turnS (F : Fx b L h m ((a, o) :: own)) (e : Heap.SameBut a h h') (ha : h'.get? a = some o') : Fx b L h' m ((a, o') :: own) :=
  F.turn (fun c oc n q => (e.2 c n).trans q) ha
theorem Fx.upd (F : Fx b L h m ((a, o) :: own)) (f : Obj → Obj) (hf : (f o).isFreed = false := by with_unfolding_all rfl) : Fx b L (h.update a f) m ((a, f o) :: own) :=
  F.turnS (.update ..) (Heap.get?_update_self _ F.head hf)
/-- a new base: all that stands but the frame's names and what is still the call's own -/
theorem Fx.freeze (F : Fx b L h m own) (own' : List (Addr × Obj)) (sub : own'.Sublist own) :
    ∃ b', Ext b b' ∧ Fx b' L h m own' ∧ (∀ c oc, c ≠ L → c ∉ own'.map (·.1) → h.get? c = some oc → b'.get? c = some oc) ∧ (∀ c oc, b'.get? c = some oc → h.get? c = some oc) := by
  refine ⟨hideAll h (L :: own'.map (·.1)), fun c oc e => hideAll_get _ (F.keep c oc e) ?_, ⟨F.ns, fun c oc e => of_hideAll _ e, hideAll_none _ (.head _), fun p hp => F.has p (sub.subset hp), fun p hp => hideAll_none _ (.tail _ (List.mem_map_of_mem hp)), ?_⟩, fun c oc n1 n2 e => hideAll_get _ e ?_, fun c oc e => of_hideAll _ e⟩
  · intro q
    rcases List.mem_cons.mp q with rfl | q
    · rw [F.lout] at e; cases e
    · obtain ⟨p, hp, rfl⟩ := List.mem_map.mp q
      rw [F.out p (sub.subset hp)] at e; cases e
  · exact F.nodup.sublist ((sub.map _).cons_cons L)
  · intro q
    rcases List.mem_cons.mp q with rfl | q
    · exact n1 rfl
    · exact n2 q
theorem Fx.freeze0 (F : Fx b L h m own) :
    ∃ b', Ext b b' ∧ Fx b' L h m [] ∧ (∀ c oc, c ≠ L → h.get? c = some oc → b'.get? c = some oc) ∧ (∀ c oc, b'.get? c = some oc → h.get? c = some oc) := by
  obtain ⟨b', e, F', k, k2⟩ := F.freeze [] (List.nil_sublist _)
  exact ⟨b', e, F', fun c oc n q => k c oc n (by simp) q, k2⟩
/-- behind a call that turned its head -/
theorem Fx.back1 (F : Fx b L h m ((a, o) :: own)) (e : Ext (h.hide a) h') (ha : h'.get? a = some o') : Fx b L h' m ((a, o') :: own) :=
  F.turn (fun c oc n q => e c oc ((Heap.hide_ne h n).trans q)) ha
end

/-- a list's object -/
abbrev LO (items : List Value) (n : Nat) : Obj := { cls := .type "list", data := .seq items.toArray n }
abbrev TO (items : List Value) (n : Nat) : Obj := { cls := .type "tuple", data := .seq items.toArray n }
theorem isList_of {h : Heap} {a : Addr} {items : List Value} {n : Nat} (e : h.get? a = some (LO items n)) : h.IsList a items.toArray := ⟨_, e, rfl, n, rfl⟩

/-- what the top left: the written part, the two namespaces -/
structure Tp (K : Frag) (mg mb : Str → Option Value) (h : Heap) : Prop where
  X : K.In h
  g : h.Ns mainGlobals mg
  b : h.Ns builtinsNs mb
  nolimit : h.NoLimit
  builtins : ∀ x : Str, x ≠ "__name__" → mb x = bootBuiltins x
theorem Tp.up {K : Frag} {mg mb : Str → Option Value} {h h' : Heap} (T : Tp K mg mb h) (e : Ext h h') : Tp K mg mb h' :=
  ⟨T.X.keeps e, T.g.keeps e, T.b.keeps e, T.nolimit.keeps e, T.builtins⟩

/-- behind a statement: on to the next, or out -/
def Nx (Q : Flow → Shared → Prop) (k : Shared → Prop) : Flow → Shared → Prop
  | .next, s => k s
  | f, s => Q f s
section
variable {M : Model} {A : Around} {E : Value → Shared → Prop} {s : Shared} {env : Env} {Q : Flow → Shared → Prop} {k : Shared → Prop}
theorem nx_next (h : k s) : Nx Q k .next s := h
theorem nx_ret {v : Value} (h : Q (.ret v) s) : Nx Q k (.ret v) s := h
theorem s_cons {st : Stmt} {rest : List Stmt} (h : wpAny M A (exec st env) (Nx Q fun s' => wpAny M A (execs rest env) Q E s') E s) : wpAny M A (execs (st :: rest) env) Q E s :=
  wpAny_execs_cons (wpAny_mono h (fun f s' z => by cases f <;> exact z) fun _ _ z => z)
end

section
variable {M : Model} {A : Around} {E : Value → Shared → Prop} {hp : Heap} {gs : Array GenState} {dr : Drawn} {tk : Nat} {os : OsState} {K : Frag} {b : Heap} {L a : Addr} {m mg mb : Str → Option Value} {own : List (Addr × Obj)} {cn : Str} {cs : Scope} {ccd : Value} {cl : List (Str × Addr)}
  {x : Str} {pos : Pos} {v : Value} {Q : Value → Shared → Prop} {c : Addr} {o : Obj}
theorem n_loc (F : Fx b L hp m own) (hv : m x = some v) (h : Q v ⟨hp, gs, dr, tk, os⟩)
    (hk : cs.kind = .function := by with_unfolding_all rfl) (hx : (envX cn cs L a ccd cl).kindOf x = some .local := by with_unfolding_all rfl) (hd : (x == ("__debug__" : Str)) = false := by decide) :
    wpAny M A (eval (.Name x pos) (envX cn cs L a ccd cl)) Q E ⟨hp, gs, dr, tk, os⟩ := wpAny_Name (wpAny_loadName_local hk hx F.ns hv h) hd
theorem l_loc (F : Fx b L hp m own) (hv : m x = some v) (h : Q v ⟨hp, gs, dr, tk, os⟩)
    (hk : cs.kind = .function := by with_unfolding_all rfl) (hx : (envX cn cs L a ccd cl).kindOf x = some .local := by with_unfolding_all rfl) :
    wpAny M A (loadName (envX cn cs L a ccd cl) x) Q E ⟨hp, gs, dr, tk, os⟩ := wpAny_loadName_local hk hx F.ns hv h
theorem n_glob (F : Fx b L hp m own) (T : Tp K mg mb b) (e : nsIn K mainGlobals x = some (some v)) (h : Q v ⟨hp, gs, dr, tk, os⟩)
    (hk : cs.kind = .function := by with_unfolding_all rfl) (hx : (envX cn cs L a ccd cl).kindOf x = some .globalImplicit := by with_unfolding_all rfl) (hd : (x == ("__debug__" : Str)) = false := by decide) :
    wpAny M A (eval (.Name x pos) (envX cn cs L a ccd cl)) Q E ⟨hp, gs, dr, tk, os⟩ := Name_function_global hk hx (loadGlobal_global (env := envX cn cs L a ccd cl) (T.g.keeps F.keep) (mg_of T.X T.g e) h) hd
theorem n_blt (F : Fx b L hp m own) (T : Tp K mg mb b) (e : nsIn K mainGlobals x = some none) (hv : bootBuiltins x = some v) (h : Q v ⟨hp, gs, dr, tk, os⟩) (hn : x ≠ "__name__" := by decide)
    (hk : cs.kind = .function := by with_unfolding_all rfl) (hx : (envX cn cs L a ccd cl).kindOf x = some .globalImplicit := by with_unfolding_all rfl) (hd : (x == ("__debug__" : Str)) = false := by decide) :
    wpAny M A (eval (.Name x pos) (envX cn cs L a ccd cl)) Q E ⟨hp, gs, dr, tk, os⟩ :=
  Name_function_global hk hx (loadGlobal_builtin (env := envX cn cs L a ccd cl) (T.g.keeps F.keep) (mg_none_of T.X T.g e) (T.b.keeps F.keep) ((T.builtins x hn).trans hv) h) hd
theorem st_loc {Q : Unit → Shared → Prop} (F : Fx b L hp m own)
    (h : ∀ h', Fx b L h' (fun y => if y = x then some v else m y) own → Q () ⟨h', gs, dr, tk + 1, os⟩)
    (hk : cs.kind = .function := by with_unfolding_all rfl) (hx : (envX cn cs L a ccd cl).kindOf x = some .local := by with_unfolding_all rfl) : wpAny M A (storeName (envX cn cs L a ccd cl) x v) Q E ⟨hp, gs, dr, tk, os⟩ :=
  wpAny_storeName_local hx F.ns (fun h' hn hs => h h' (F.store hn hs)) (by show (cs.kind == .class || (cs.kind == .module && L != mainGlobals)) = false; rw [hk]; rfl)
abbrev CO (v : Option Value) : Obj := { cls := .type "cell", data := .cell v }
end

/-! the bridge to the library's rules over a ledger -/
def noHeap : Heap := { objs := #[] }
theorem noHeap_get (a : Addr) : noHeap.get? a = none := by simp [noHeap, Heap.get?]
def others (h : Heap) (as : List Addr) : List (Addr × Obj) := (List.range h.objs.size).filterMap fun a => if a ∈ as then none else (h.get? a).map fun o => (a, o)
theorem mem_others {h : Heap} {as : List Addr} {p : Addr × Obj} : p ∈ others h as ↔ p.1 ∉ as ∧ h.get? p.1 = some p.2 := by
  obtain ⟨a, o⟩ := p
  simp only [others, List.mem_filterMap, List.mem_range]
  constructor
  · rintro ⟨c, hc, e⟩
    split at e
    · cases e
    · rename_i n
      obtain ⟨oc, h1, h2⟩ := Option.map_eq_some_iff.mp e
      cases h2
      exact ⟨n, h1⟩
  · rintro ⟨n, e⟩
    exact ⟨a, Heap.lt_size e, by rw [if_neg n, e]; rfl⟩
section
variable {b h h' : Heap} {L a : Addr} {m m' : Str → Option Value} {own own' : List (Addr × Obj)} {o o' : Obj}
theorem Fx.fr (F : Fx b L h m own) : Fr noHeap L h m := ⟨F.ns, (fun c oc e => by rw [noHeap_get] at e; cases e), Nat.zero_le _⟩
theorem Fx.news (F : Fx b L h m own) : News noHeap L h (own ++ others h (L :: own.map (·.1))) := fun p hp => by
  rcases List.mem_append.mp hp with hp | hp
  · exact ⟨F.has p hp, F.notL hp, noHeap_get _⟩
  · obtain ⟨n, e⟩ := mem_others.mp hp
    exact ⟨e, fun q => n (q ▸ .head _), noHeap_get _⟩
/-- a rule has turned the head of the ledger -/
theorem Fx.ofNews (F : Fx b L h m ((a, o) :: own)) (F' : Fr noHeap L h' m') (N' : News noHeap L h' ((a, o') :: (own ++ others h (L :: a :: own.map (·.1))))) : Fx b L h' m' ((a, o') :: own) := by
  have nd := F.nodup
  have all : ∀ p ∈ (a, o') :: own, h'.get? p.1 = some p.2 := fun p hp => by
    rcases List.mem_cons.mp hp with rfl | hp
    · exact (N' _ (.head _)).1
    · exact (N' _ (.tail _ (List.mem_append_left _ hp))).1
  refine ⟨F'.ns, fun c oc e => ?_, F.lout, all, fun p hp => ?_, nd⟩
  · refine (N' (c, oc) (.tail _ (List.mem_append_right _ (mem_others.mpr ⟨fun q => ?_, F.keep c oc e⟩)))).1
    rcases List.mem_cons.mp q with q | q
    · dsimp only at q; rw [q, F.lout] at e; cases e
    · rcases List.mem_cons.mp q with q | q
      · have := F.out (a, o) (.head _); dsimp only at q this; rw [q, this] at e; cases e
      · obtain ⟨p, hp, z⟩ := List.mem_map.mp q
        have := F.out p (.tail _ hp); dsimp only at z; rw [z, e] at this; cases this
  · rcases List.mem_cons.mp hp with rfl | hp
    · exact F.out (a, o) (.head _)
    · exact F.out p (.tail _ hp)
end

section
variable {prog : Program} {w : World} {A : Around} {E : Value → Shared → Prop} {hp : Heap} {gs : Array GenState} {dr : Drawn} {tk : Nat} {os : OsState} {K : Frag} {b : Heap} {x C L p dx : Addr} {m : Str → Option Value} {own : List (Addr × Obj)} {ox ox' od : Obj} {name : Str} {v : Value} {i : Nat}
theorem ga_slot {expr : Bool} {Q : Value → Shared → Prop} (X : K.In hp) (I : InstAt hp x ox C (some od)) (hg : plainGet K C name = true) (hc : isClsIn K C = true)
    (ha : findIn K (.ref C) name = some (some (.ref p))) (hn : specialIn K (.ref p) "__get__" = some (some (.builtin "member_descriptor.__get__"))) (ht : takesIn K (.ref p) = some true) (hps : slotIn K p C = some i)
    (hv : (ox.slots[i]?).join = some v) (hh : handedIn v = true) (h : Q v ⟨hp, gs, dr, tk + 1, os⟩) : wpAny (model prog w) A (getAttr (.ref x) name expr) Q E ⟨hp, gs, dr, tk, os⟩ :=
  get_bind X I (plainGet_of hg).1 (findObj_data hc ha hn ht) (plainGet_of hg).2 (wpAny_call (slot_get (s := ⟨hp, gs, dr, tk + 1, os⟩) X I hps hv (handed_on hh h)))
theorem sa_slot {Q : Unit → Shared → Prop} (F : Fx b L hp m ((x, ox) :: own)) (X : K.In hp) (I : InstAt hp x ox C (some od))
    (hs : findIn K (.ref C) "__setattr__" = some (some (.builtin "object.__setattr__"))) (hpo : plainOver K C = true) (ht : takerIn K C name = some (some (.ref p))) (hT : typeIn K (.ref p) = some (.type "member_descriptor")) (hi : slotIn K p C = some i) (hz : i < 1000)
    (e : { ox with slots := (ox.slots ++ Array.replicate (i + 1 - ox.slots.size) none).setIfInBounds i (some v) } = ox') (hf : ox'.isFreed = false)
    (h : ∀ h', Fx b L h' m ((x, ox') :: own) → Q () ⟨h', gs, dr, tk + 1, os⟩) : wpAny (model prog w) A (setAttr (.ref x) name v) Q E ⟨hp, gs, dr, tk, os⟩ := by
  refine set_plain X I hs (osa_descr (s := ⟨hp, gs, dr, tk + 1, os⟩) KF.slot_mset X I hpo ht hT (slot_set (s := ⟨hp, gs, dr, tk + 1, os⟩) (pre := []) (post := own ++ others hp (L :: x :: own.map (·.1))) F.fr F.news X I hi hz (fun _ q => nomatch q) (fun q hq z => ?_) e hf fun h' F' N' => h h' (F.ofNews F' N')))
  rcases List.mem_append.mp hq with hq | hq
  · have nd := F.nodup
    simp only [List.map_cons, List.nodup_cons] at nd
    exact nd.2.1 (List.mem_map.mpr ⟨q, hq, z⟩)
  · exact (mem_others.mp hq).1 (.tail _ (by rw [z]; exact .head _))
end

section
variable {prog : Program} {w : World} {A : Around} {hp : Heap} {gs : Array GenState} {dr : Drawn} {tk : Nat} {os : OsState} {R : Result → Shared → Prop} {name qual : Str} {params : Arguments} {body : List Stmt} {scope : Scope} {cl : List (Str × Addr)} {dV kV doc pm cdv ct : Value} {an : Option Addr} {fo : Obj} {f : Addr} {args : Args} {binds : List (Str × Value)}
def retOf : Flow → Value
  | .ret v => v
  | _ => .none
/-- a def's call: a new frame over all that stands, but what the call may turn -/
theorem call_fx (own : List (Addr × Obj)) (hroom : A.depth < recursionLimit) (ho : hp.get? f = some fo) (hd : fo.data = .func (fnX name qual params body scope cl dV kV doc pm an cdv ct))
    (hlim : hp.NoLimit) (hcd : hp.CodeRec cdv qual) (hbind : BindsTo ⟨hp, gs, dr, tk, os⟩ (fnX name qual params body scope cl dV kV doc pm an cdv ct) args binds) (hloc : ∀ y ∈ binds, scope.names.lookup y.1 = some .local)
    (hown : ∀ p ∈ own, hp.get? p.1 = some p.2) (hnd : (own.map (·.1)).Nodup)
    (h : ∀ L' h₁ tk', Fx (hideAll hp (own.map (·.1))) L' h₁ (fun y => binds.reverse.lookup y) own →
      wpAny (model prog w) (A.deeper (envX qual scope L' f cdv cl)) (execs body (envX qual scope L' f cdv cl)) (fun fl s' => R (.ok (.ret (retOf fl))) s')
        (fun e s' => wpAny (model prog w) (A.deeper (envX qual scope L' f cdv cl)) (leaving (envX qual scope L' f cdv cl) e) (fun _ s'' => R (.error e) s'') (fun e' s'' => R (.error e') s'') s')
        ⟨h₁, gs, dr, tk', os⟩)
    (hcell : ∀ x ∈ scope.names, x.2 ≠ .cell) (hco : scope.isCoroutine = false := by with_unfolding_all rfl) (hgen : scope.isGenerator = false := by with_unfolding_all rfl) (hk : scope.kind = .function := by with_unfolding_all rfl) : codeAny (model prog w) A (.call (.ref f) args) R ⟨hp, gs, dr, tk, os⟩ := by
  refine codeAny_call_def (fd := fnX name qual params body scope cl dV kV doc pm an cdv ct) (body := body) (binds := binds) hroom ho hd hlim hcd rfl hbind hcell hloc (fun h₁ hns hk₁ => ?_) hco hgen hk
  refine wpAny_mono (h hp.objs.size h₁ (tk + binds.length) ⟨hns, fun c oc e => hk₁ c oc (of_hideAll _ e), ?_, fun p hp => hk₁ _ _ (hown p hp), fun p hp => hideAll_none _ (List.mem_map_of_mem hp), ?_⟩) (fun fl s' z => ?_) fun _ _ y => y
  · cases q : (hideAll hp (own.map (·.1))).get? hp.objs.size with
    | none => rfl
    | some o => have := of_hideAll _ q; rw [none_at_size] at this; cases this
  · refine List.nodup_cons.mpr ⟨fun q => ?_, hnd⟩
    obtain ⟨p, hp, e⟩ := List.mem_map.mp q
    have := hown p hp
    rw [e, none_at_size] at this; cases this
  · cases fl <;> exact z
end

section
variable {M : Model} {A : Around} {E : Value → Shared → Prop} {s : Shared} {K : Frag} {b : Heap} {L : Addr} {m mg mb : Str → Option Value} {env : Env} {pos : Pos} {f : Value} {first : List Value} {Q : Value → Shared → Prop}
/-- a call of a thing of the text -/
theorem cw_fn {e : Expr} {rest : List Expr} (T : Tp K mg mb b) (hk : keepIn K f = true) (h : wpAny M A (spliced (backTo pos (starEach (e :: rest) env))) (fun vs s₁ => Ext b s₁.heap ∧ wpAny M A (call f (first ++ vs)) Q E s₁) E s)
    (he : starEach (e :: rest) env = (false, eval e env) :: starEach rest env := by with_unfolding_all rfl) (hplain : (backTo pos (starEach rest env)).any (·.1) = false := by with_unfolding_all rfl) :
    wpAny M A (callWith pos f first (backTo pos (starEach (e :: rest) env)) []) Q E s :=
  callWith_K T.X hk (wpAny_mono h (fun _ _ z => ⟨T.X.keeps z.1, z.2⟩) fun _ _ z => z) he hplain
theorem cw_fn0 (T : Tp K mg mb b) (e : Ext b s.heap) (hk : keepIn K f = true) (h : wpAny M A (call f (first ++ [])) Q E s) : wpAny M A (callWith pos f first (backTo pos (starEach [] env)) []) Q E s :=
  callWith_K0 (T.X.keeps e) hk h
end

section
variable {prog : Program} {w : World} {A : Around} {E : Value → Shared → Prop} {hp : Heap} {gs : Array GenState} {dr : Drawn} {tk : Nat} {os : OsState} {env : Env} {Q : Value → Shared → Prop} {a c : Int} {t u : Tok}
theorem x_int {i : Int} {k : Nat} {pos : Pos} (h : Q (.int i tk) ⟨hp, gs, dr, tk + 1, os⟩) : wpAny (model prog w) A (eval (.Constant (.int i) k pos) env) Q E ⟨hp, gs, dr, tk, os⟩ := wpAny_Constant_int h
theorem x_str {x : Str} {k : Nat} {pos : Pos} (h : Q (.str x tk) ⟨hp, gs, dr, tk + 1, os⟩) : wpAny (model prog w) A (eval (.Constant (.str x) k pos) env) Q E ⟨hp, gs, dr, tk, os⟩ := Constant_str h
theorem x_add (h : Q (.int (a + c) tk) ⟨hp, gs, dr, tk + 1, os⟩) : wpAny (model prog w) A (binaryOp .Add (.int a t) (.int c u)) Q E ⟨hp, gs, dr, tk, os⟩ := add_int h
theorem x_sub (h : Q (.int (a - c) tk) ⟨hp, gs, dr, tk + 1, os⟩) : wpAny (model prog w) A (binaryOp .Sub (.int a t) (.int c u)) Q E ⟨hp, gs, dr, tk, os⟩ := sub_int h
theorem x_isub (h : Q (.int (a - c) tk) ⟨hp, gs, dr, tk + 1, os⟩) : wpAny (model prog w) A (inplaceOp .Sub (.int a t) (.int c u)) Q E ⟨hp, gs, dr, tk, os⟩ := isub_int h
theorem x_iadd (h : Q (.int (a + c) tk) ⟨hp, gs, dr, tk + 1, os⟩) : wpAny (model prog w) A (inplaceOp .Add (.int a t) (.int c u)) Q E ⟨hp, gs, dr, tk, os⟩ := iadd_int h
theorem x_rshift (hn : 0 ≤ c) (h : Q (.int (a.fdiv (2 ^ c.toNat)) tk) ⟨hp, gs, dr, tk + 1, os⟩) : wpAny (model prog w) A (binaryOp .RShift (.int a t) (.int c u)) Q E ⟨hp, gs, dr, tk, os⟩ := rshift_int hn h
theorem x_lshift (hn : 0 ≤ c) (hn2 : c ≤ 1000000) (ha : a.natAbs < 2 ^ 64) (h : Q (.int (a * 2 ^ c.toNat) tk) ⟨hp, gs, dr, tk + 1, os⟩) : wpAny (model prog w) A (binaryOp .LShift (.int a t) (.int c u)) Q E ⟨hp, gs, dr, tk, os⟩ := lshift_int_small hn hn2 ha h
theorem x_mod (hc : c ≠ 0) (h : Q (.int (a.fmod c) tk) ⟨hp, gs, dr, tk + 1, os⟩) : wpAny (model prog w) A (binaryOp .Mod (.int a t) (.int c u)) Q E ⟨hp, gs, dr, tk, os⟩ := mod_int' hc h
end

theorem Fx.hid {b h : Heap} {L a : Addr} {m : Str → Option Value} {own : List (Addr × Obj)} {o : Obj} (F : Fx b L h m ((a, o) :: own)) : Ext b (h.hide a) :=
  fun c oc e => (Heap.hide_ne h (fun z => by have := F.out (a, o) (.head _); rw [z] at e; rw [e] at this; cases this)).trans (F.keep c oc e)
theorem hide_ext (h : Heap) (a : Addr) : Ext (h.hide a) h := fun _ _ e => Heap.of_hide e
theorem Fx.freeze1 {b h : Heap} {L : Addr} {m : Str → Option Value} {p : Addr × Obj} {own : List (Addr × Obj)} (F : Fx b L h m (p :: own)) :
    ∃ b', Ext b b' ∧ Fx b' L h m [p] ∧ (∀ q ∈ own, b'.get? q.1 = some q.2) ∧ (∀ c oc, c ≠ L → c ≠ p.1 → h.get? c = some oc → b'.get? c = some oc) ∧ Ext b' h := by
  obtain ⟨b', e, F', k, k2⟩ := F.freeze [p] (by simp)
  refine ⟨b', e, F', fun q hq => k _ _ (F.notL (.tail _ hq)) (fun z => ?_) (F.has q (.tail _ hq)), fun c oc n1 n2 z => k c oc n1 (by simpa using n2) z, k2⟩
  have nd := F.nodup
  simp only [List.map_cons, List.nodup_cons] at nd
  exact nd.2.1 (List.mem_map.mpr ⟨q, hq, by simpa using z⟩)
theorem Fx.freezeA {b h : Heap} {L : Addr} {m : Str → Option Value} {own : List (Addr × Obj)} (F : Fx b L h m own) :
    ∃ b', Ext b b' ∧ Fx b' L h m [] ∧ (∀ q ∈ own, b'.get? q.1 = some q.2) ∧ (∀ c oc, c ≠ L → h.get? c = some oc → b'.get? c = some oc) ∧ Ext b' h := by
  obtain ⟨b', e, F', k, k2⟩ := F.freeze0
  exact ⟨b', e, F', fun q hq => k _ _ (F.notL hq) (F.has q hq), k, k2⟩
theorem Fx.notL' {b h : Heap} {L a : Addr} {m : Str → Option Value} {own : List (Addr × Obj)} {o : Obj} (F : Fx b L h m own) (e : h.get? a = some o) (hd : ∀ es n, o.data ≠ .dict es n) : a ≠ L := by
  rintro rfl
  obtain ⟨oL, es, ep, g, d, _⟩ := F.ns
  rw [g] at e
  exact hd es ep (Option.some.inj e ▸ d)
section
variable {b h h' hp : Heap} {L a : Addr} {m : Str → Option Value} {own own0 : List (Addr × Obj)} {o : Obj} {p q r : Addr × Obj}
theorem Fx.rot3 (F : Fx b L h m (p :: q :: r :: own)) : Fx b L h m (r :: p :: q :: own) := F.perm ((List.Perm.cons _ (.swap _ _ _)).trans (.swap _ _ _))
theorem Fx.rot3' (F : Fx b L h m (p :: q :: r :: own)) : Fx b L h m (q :: r :: p :: own) := F.perm ((List.Perm.swap _ _ _).trans (.cons _ (.swap _ _ _)))
theorem Fx.addNew (F0 : Fx b L hp m own0) (F : Fx b L h m own) (he : own.map (·.1) = own0.map (·.1)) (ha : hp.get? a = none) (hn : h.get? a = some o) : Fx b L h m ((a, o) :: own) := by
  refine ⟨F.ns, F.keep, F.lout, fun p hp => ?_, fun p hp => ?_, ?_⟩
  · rcases List.mem_cons.mp hp with rfl | hp
    · exact hn
    · exact F.has p hp
  · rcases List.mem_cons.mp hp with rfl | hp
    · exact F0.keep.none ha
    · exact F.out p hp
  · have nd := F.nodup
    have hl : L ≠ a := fun q => by obtain ⟨oL, _, _, hL, _⟩ := F0.ns; rw [q, ha] at hL; cases hL
    have ho : a ∉ own.map (·.1) := fun q => by
      rw [he] at q
      obtain ⟨p, hp, e⟩ := List.mem_map.mp q
      have := F0.has p hp
      rw [e, ha] at this; cases this
    simp only [List.map_cons, List.nodup_cons, List.mem_cons, not_or] at nd ⊢
    exact ⟨⟨hl, nd.1⟩, ho, nd.2⟩
/-- behind a call that turned its two first -/
theorem Fx.back2 {a₂ : Addr} {o₂ o' o₂' : Obj} (F : Fx b L h m ((a, o) :: (a₂, o₂) :: own)) (e : Ext (hideAll h [a, a₂]) h') (ha : h'.get? a = some o') (ha₂ : h'.get? a₂ = some o₂') : Fx b L h' m ((a, o') :: (a₂, o₂') :: own) := by
  have nd := F.nodup
  simp only [List.map_cons, List.nodup_cons, List.mem_cons, not_or] at nd
  have keep : ∀ c oc, c ≠ a → c ≠ a₂ → h.get? c = some oc → h'.get? c = some oc := fun c oc n1 n2 q => e c oc (hideAll_get _ q (by simp [n1, n2]))
  obtain ⟨oL, es, ep, gL, r⟩ := F.ns
  refine ⟨⟨oL, es, ep, keep _ _ nd.1.1 nd.1.2.1 gL, r⟩, fun c oc q => keep c oc (fun z => ?_) (fun z => ?_) (F.keep c oc q), F.lout, fun p hp => ?_, fun p hp => ?_, F.nodup⟩
  · have := F.out (a, o) (.head _); rw [z] at q; rw [q] at this; cases this
  · have := F.out (a₂, o₂) (.tail _ (.head _)); rw [z] at q; rw [q] at this; cases this
  · rcases List.mem_cons.mp hp with rfl | hp
    · exact ha
    · rcases List.mem_cons.mp hp with rfl | hp
      · exact ha₂
      · exact keep _ _ (fun z => nd.2.1.2 (List.mem_map.mpr ⟨p, hp, z⟩)) (fun z => nd.2.2.1 (List.mem_map.mpr ⟨p, hp, z⟩)) (F.has p (.tail _ (.tail _ hp)))
  · rcases List.mem_cons.mp hp with rfl | hp
    · exact F.out (a, o) (.head _)
    · rcases List.mem_cons.mp hp with rfl | hp
      · exact F.out (a₂, o₂) (.tail _ (.head _))
      · exact F.out p (.tail _ (.tail _ hp))
theorem Fx.hid2 {a₂ : Addr} {o₂ : Obj} (F : Fx b L h m ((a, o) :: (a₂, o₂) :: own)) : Ext b (hideAll h [a, a₂]) := fun c oc e => hideAll_get _ (F.keep c oc e) (fun q => by
  rcases List.mem_cons.mp q with z | z
  · have := F.out (a, o) (.head _); rw [z] at e; rw [e] at this; cases this
  · have := F.out (a₂, o₂) (.tail _ (.head _)); rw [List.mem_singleton.mp z] at e; rw [e] at this; cases this)
end
theorem ext_hide2 {g hp : Heap} {a a₂ : Addr} (he : Ext g hp) (h1 : g.get? a = none) (h2 : g.get? a₂ = none) : Ext g (hideAll hp [a, a₂]) := fun c oc e => hideAll_get _ (he c oc e) (fun q => by
  rcases List.mem_cons.mp q with z | z
  · rw [z, h1] at e; cases e
  · rw [List.mem_singleton.mp z, h2] at e; cases e)
/-- a loop's turn has come to its end -/
def TurnEnd (gs : Array GenState) (dr : Drawn) (os : OsState) (L : Addr) (it : List (Addr × Obj)) (b : Heap) (Inv : Heap → (Str → Option Value) → List (Addr × Obj) → Prop) (s' : Shared) : Prop :=
  ∃ h tk b' m own, s' = ⟨h, gs, dr, tk, os⟩ ∧ Ext b b' ∧ Fx b' L h m (own ++ it) ∧ Inv b' m own
def Turned (gs : Array GenState) (dr : Drawn) (os : OsState) (L : Addr) (it : List (Addr × Obj)) (b : Heap) (Inv : Heap → (Str → Option Value) → List (Addr × Obj) → Prop) (Q : Flow → Shared → Prop) : Flow → Shared → Prop
  | .next, s' | .cont, s' => TurnEnd gs dr os L it b Inv s'
  | .brk, s' => Q .next s'
  | .ret v, s' => Q (.ret v) s'

section
variable {prog : Program} {w : World} {A : Around} {R : Result → Shared → Prop} {hp : Heap} {gs : Array GenState} {dr : Drawn} {tk₀ : Nat} {os : OsState}
theorem loop_walk {x : Str} {px : Pos} {body : List Stmt} {b : Heap} {L a : Addr} {m : Str → Option Value} {own : List (Addr × Obj)} {cn : Str} {cs : Scope} {ccd : Value} {cl : List (Str × Addr)}
    {I : Addr} {fp wr : List Addr} {n : Nat} {P : Nat → Value → Prop} {St : Nat → Heap → Prop} (W : Walks prog w A I fp wr n P St) (hst : St 0 hp) (F : Fx b L hp m own)
    (hfp : ∀ a ∈ fp, a ∉ wr → ∃ o, b.get? a = some o) (hwr : ∀ a ∈ wr, b.get? a = none ∧ a ≠ L ∧ ∀ p ∈ own, p.1 ≠ a) (hnd : wr.Nodup) (hex : ∀ i h, St i h → ∀ a ∈ wr, ∃ o, h.get? a = some o)
    (Inv : Nat → Heap → (Str → Option Value) → List (Addr × Obj) → Prop) (h0 : Inv 0 b m own)
    (step : ∀ i v b₁ m₁ own₁ h₁ tk₁ it E', i < n → P i v → Inv i b₁ m₁ own₁ → Ext b b₁ → Fx b₁ L h₁ (fun y => if y = x then some v else m₁ y) (own₁ ++ it) →
      wpAny (model prog w) A (execs body (envX cn cs L a ccd cl)) (Turned gs dr os L it b₁ (Inv (i + 1)) fun f s' => R (.ok f) s') E' ⟨h₁, gs, dr, tk₁, os⟩)
    (fin : ∀ h' tk b' m' own', Inv n b' m' own' → Ext b b' → Fx b' L h' m' own' → R (.ok .next) ⟨h', gs, dr, tk, os⟩)
    (hk : cs.kind = .function := by with_unfolding_all rfl) (hx : (envX cn cs L a ccd cl).kindOf x = some .local := by with_unfolding_all rfl) :
    codeAny (model prog w) A (.forLoop (.Name x px) (.ref I) body [] (envX cn cs L a ccd cl)) R ⟨hp, gs, dr, tk₀, os⟩ := by
  have hpp : ((envX cn cs L a ccd cl).scope.kind == .class || ((envX cn cs L a ccd cl).scope.kind == .module && (envX cn cs L a ccd cl).locals != (envX cn cs L a ccd cl).globals)) = false := by
    show (cs.kind == .class || (cs.kind == .module && L != mainGlobals)) = false; rw [hk]; rfl
  refine codeAny_forLoop (fun k s' => ∃ h' tk b' m' own' i, s' = ⟨h', gs, dr, tk, os⟩ ∧ k = n + 1 - i ∧ i ≤ n ∧ St i h' ∧ Ext b b' ∧ Fx b' L h' m' own' ∧ Inv i b' m' own' ∧ (∀ a ∈ wr, b'.get? a = none ∧ a ≠ L ∧ ∀ p ∈ own', p.1 ≠ a)) ?_ (n + 1)
    ⟨hp, tk₀, b, m, own, 0, rfl, rfl, Nat.zero_le _, hst, .rfl', F, h0, hwr⟩
  rintro k s' ⟨h, tk, b', m', own', i, rfl, rfl, hi, st, eb, F', inv, hw⟩
  -- what a step of the iterator leaves
  have keepF : ∀ {h₁ : Heap}, (∀ c o, c ∉ wr → h.get? c = some o → h₁.get? c = some o) → Fx b' L h₁ m' own' := fun {h₁} hk₁ => by
    obtain ⟨oL, es, ep, gL, r⟩ := F'.ns
    refine ⟨⟨oL, es, ep, hk₁ _ _ (fun q => (hw _ q).2.1 rfl) gL, r⟩, fun c o e => hk₁ c o (fun q => by rw [(hw _ q).1] at e; cases e) (F'.keep c o e), F'.lout, fun p hp => hk₁ _ _ (fun q => (hw _ q).2.2 p hp rfl) (F'.has p hp), F'.out, F'.nodup⟩
  by_cases hlt : i < n
  · refine W.item i _ _ _ hlt st fun v h₁ tk₁ hv st₁ hk₁ => ?_
    have F₁ := keepF hk₁
    dsimp only
    refine wpAny_assign_Name (wpAny_storeName_local hx F₁.ns (fun h₂ hn₂ hs₂ => ?_) hpp)
    have F₂ := F₁.store hn₂ hs₂
    -- the iterator's own objects
    have hobj : ∀ c ∈ wr, ∃ o, h₂.get? c = some o := fun c hc => by
      obtain ⟨o, ho⟩ := hex _ _ st₁ c hc
      exact ⟨o, (hs₂.2 c (hw c hc).2.1).trans ho⟩
    let it : List (Addr × Obj) := wr.map fun c => (c, (h₂.get? c).getD default)
    have hit : ∀ p ∈ it, p.1 ∈ wr ∧ h₂.get? p.1 = some p.2 := fun p hp => by
      obtain ⟨c, hc, rfl⟩ := List.mem_map.mp hp
      obtain ⟨o, ho⟩ := hobj c hc
      refine ⟨hc, ?_⟩
      show h₂.get? c = some ((h₂.get? c).getD default)
      rw [ho]; rfl
    have hitm : it.map (·.1) = wr := by simp [it, List.map_map, Function.comp_def]
    have F₃ : Fx b' L h₂ (fun y => if y = x then some v else m' y) (own' ++ it) := by
      refine ⟨F₂.ns, F₂.keep, F₂.lout, fun p hp => ?_, fun p hp => ?_, ?_⟩
      · rcases List.mem_append.mp hp with hp | hp
        · exact F₂.has p hp
        · exact (hit p hp).2
      · rcases List.mem_append.mp hp with hp | hp
        · exact F₂.out p hp
        · exact (hw _ (hit p hp).1).1
      · rw [List.map_append, hitm, ← List.cons_append]
        refine List.nodup_append.mpr ⟨F₂.nodup, hnd, fun c hc d hd => ?_⟩
        rintro rfl
        rcases List.mem_cons.mp hc with rfl | hc
        · exact (hw _ hd).2.1 rfl
        · obtain ⟨p, hp, q⟩ := List.mem_map.mp hc
          exact (hw _ hd).2.2 p hp q
    refine wpAny_mono (step i v b' m' own' h₂ (tk₁ + 1) it _ hlt hv inv eb F₃) (fun f s₃ z => ?_) fun _ _ z => z
    have go : TurnEnd gs dr os L it b' (Inv (i + 1)) s₃ → ∃ k, k < n + 1 - i ∧ ∃ h' tk b' m' own' j, s₃ = ⟨h', gs, dr, tk, os⟩ ∧ k = n + 1 - j ∧ j ≤ n ∧ St j h' ∧ Ext b b' ∧ Fx b' L h' m' own' ∧ Inv j b' m' own' ∧ (∀ a ∈ wr, b'.get? a = none ∧ a ≠ L ∧ ∀ p ∈ own', p.1 ≠ a) := by
      rintro ⟨h₃, tk₃, b₃, m₃, own₃, rfl, e₃, F₄, inv₃⟩
      have hasit : ∀ p ∈ it, h₃.get? p.1 = some p.2 := fun p hp => F₄.has p (List.mem_append_right _ hp)
      have hi0 : ∀ c ∈ wr, ∃ o, (c, o) ∈ it := fun c hc => ⟨_, List.mem_map_of_mem hc⟩
      refine ⟨n + 1 - (i + 1), by omega, h₃, tk₃, b₃, m₃, own₃, i + 1, rfl, rfl, hlt, ?_, eb.trans e₃, ?_, inv₃, fun c hc => ?_⟩
      · refine W.frame _ _ _ st₁ fun c hc o e => ?_
        by_cases hcw : c ∈ wr
        · obtain ⟨oc, hoc⟩ := hi0 c hcw
          have q : h₂.get? c = some o := (hs₂.2 c (hw c hcw).2.1).trans e
          have := (hit _ hoc).2
          dsimp only at this
          rw [q] at this
          have := Option.some.inj this
          rw [this]
          exact hasit _ hoc
        · obtain ⟨ob, hob⟩ := hfp c hc hcw
          have e1 := F₁.keep c ob (eb c ob hob)
          rw [e] at e1
          rw [Option.some.inj e1]
          exact F₄.keep c ob (e₃ c ob (eb c ob hob))
      · refine ⟨F₄.ns, F₄.keep, F₄.lout, fun p hp => F₄.has p (List.mem_append_left _ hp), fun p hp => F₄.out p (List.mem_append_left _ hp), ?_⟩
        have nd := F₄.nodup
        rw [List.map_append, ← List.cons_append] at nd
        exact (List.nodup_append.mp nd).1
      · obtain ⟨oc, hoc⟩ := hi0 c hc
        refine ⟨F₄.out _ (List.mem_append_right _ hoc), (hw c hc).2.1, fun p hp q => ?_⟩
        have nd := F₄.nodup
        rw [List.map_append, hitm, ← List.cons_append] at nd
        exact (List.nodup_append.mp nd).2.2 _ (.tail _ (List.mem_map_of_mem hp)) _ hc q
    cases f with
    | next => exact go z
    | cont => exact go z
    | brk => exact z
    | ret v => exact z
  · have : i = n := by omega
    subst this
    refine W.done _ _ _ st fun h₁ tk₁ hk₁ => ?_
    dsimp only
    exact wpAny_execs_nil (fin h₁ tk₁ b' m' own' inv eb (keepF hk₁))

theorem loop_while {test : Expr} {body : List Stmt} {b : Heap} {L a : Addr} {m : Str → Option Value} {own : List (Addr × Obj)} {cn : Str} {cs : Scope} {ccd : Value} {cl : List (Str × Addr)}
    (F : Fx b L hp m own) (Inv : Nat → Heap → (Str → Option Value) → List (Addr × Obj) → Prop) (n : Nat) (h0 : Inv n b m own)
    (step : ∀ k b₁ m₁ own₁ h₁ tk₁ E', Inv k b₁ m₁ own₁ → Ext b b₁ → Fx b₁ L h₁ m₁ own₁ →
      wpAny (model prog w) A (isTrue test (envX cn cs L a ccd cl) (eval test (envX cn cs L a ccd cl))) (fun t s₂ =>
        if t then wpAny (model prog w) A (execs body (envX cn cs L a ccd cl)) (Turned gs dr os L [] b₁ (fun b m own => ∃ j, j < k ∧ Inv j b m own) fun f s' => R (.ok f) s') E' s₂ else R (.ok .next) s₂) E' ⟨h₁, gs, dr, tk₁, os⟩) :
    codeAny (model prog w) A (.whileLoop test body [] (envX cn cs L a ccd cl)) R ⟨hp, gs, dr, tk₀, os⟩ := by
  refine codeAny_whileLoop (fun k s' => ∃ h' tk b' m' own', s' = ⟨h', gs, dr, tk, os⟩ ∧ Ext b b' ∧ Fx b' L h' m' own' ∧ Inv k b' m' own') ?_ n ⟨hp, tk₀, b, m, own, rfl, .rfl', F, h0⟩
  rintro k s' ⟨h, tk, b', m', own', rfl, eb, F', inv⟩
  refine wpAny_mono (step k b' m' own' h tk _ inv eb F') (fun t s₂ z => ?_) fun _ _ z => z
  cases t with
  | false => simp only [Bool.false_eq_true, if_false] at z ⊢; exact wpAny_execs_nil z
  | true =>
    simp only [if_true] at z ⊢
    refine wpAny_mono z (fun f s₃ y => ?_) fun _ _ z => z
    have go : TurnEnd gs dr os L [] b' (fun b m own => ∃ j, j < k ∧ Inv j b m own) s₃ → ∃ j, j < k ∧ ∃ h' tk b' m' own', s₃ = ⟨h', gs, dr, tk, os⟩ ∧ Ext b b' ∧ Fx b' L h' m' own' ∧ Inv j b' m' own' := by
      rintro ⟨h₃, tk₃, b₃, m₃, own₃, rfl, e₃, F₄, j, hj, inv₃⟩
      rw [List.append_nil] at F₄
      exact ⟨j, hj, h₃, tk₃, b₃, m₃, own₃, rfl, eb.trans e₃, F₄, inv₃⟩
    cases f with
    | next => exact go y
    | cont => exact go y
    | brk => exact y
    | ret v => exact y
end
theorem TurnEnd.mk0 {gs : Array GenState} {dr : Drawn} {os : OsState} {L : Addr} {b b' h : Heap} {tk : Nat} {m : Str → Option Value} {own : List (Addr × Obj)} {Inv : Heap → (Str → Option Value) → List (Addr × Obj) → Prop} (F : Fx b' L h m own) (e : Ext b b') (i : Inv b' m own) :
    TurnEnd gs dr os L [] b Inv ⟨h, gs, dr, tk, os⟩ := ⟨h, tk, b', m, own, rfl, e, by rw [List.append_nil]; exact F, i⟩
section
variable {prog : Program} {w : World} {A : Around} {E : Value → Shared → Prop} {hp : Heap} {gs : Array GenState} {dr : Drawn} {tk : Nat} {os : OsState} {b : Heap} {L l l2 : Addr} {m : Str → Option Value} {own : List (Addr × Obj)} {items items2 : List Value} {n n2 : Nat} {v : Value}

theorem lc_copy {Q : Value → Shared → Prop} (F : Fx b L hp m own) (hl : hp.get? l = some (LO items n)) (hz : items.length ≤ 1000000)
    (h : ∀ D c h', Fx b L h' m ((D, LO items c) :: own) → Ext hp h' → Q (.ref D) ⟨h', gs, dr, tk, os⟩) : wpAny (model prog w) A (call (.type "list") [.ref l]) Q E ⟨hp, gs, dr, tk, os⟩ :=
  call_list_seq l (.inl rfl) hl rfl rfl (fun h' c' hk hD => h _ c' h' (F.gain hk (none_at_size _) hD) hk) (by rw [List.size_toArray, sizeLine_eq]; omega)
theorem gm_list {name : Str} {id : String} {pl : Sem Bool} {Q : Value × List Value → Shared → Prop} (hl : hp.get? l = some (LO items n)) (slot : Slot "list" name id)
    (hty : typeOf (.builtin id) = pure (.type "method_descriptor")) (h : Q (.builtin id, [.ref l]) ⟨hp, gs, dr, tk, os⟩) : wpAny (model prog w) A (getMethod (.ref l) name pl) Q E ⟨hp, gs, dr, tk, os⟩ :=
  getMethod_list_of slot hty (isList_of hl) ⟨_, hl, rfl⟩ h
theorem lc_append {Q : Value → Shared → Prop} (F : Fx b L hp m ((l, LO items n) :: own)) (hz : items.length ≤ 1000000)
    (h : ∀ h' n', Fx b L h' m ((l, LO (items ++ [v]) n') :: own) → Q .none ⟨h', gs, dr, tk, os⟩) : wpAny (model prog w) A (call (.builtin "list.append") [.ref l, v]) Q E ⟨hp, gs, dr, tk, os⟩ :=
  wpAny_list_append_plain ⟨n, F.head⟩ (fun h' ⟨n', hn'⟩ hs => h h' n' (F.turnS hs (by rw [hn']; simp))) (by rw [List.size_toArray, sizeLine_eq]; omega)
theorem lc_extend {Q : Value → Shared → Prop} (F : Fx b L hp m ((l, LO items n) :: own)) (hl2 : hp.get? l2 = some (LO items2 n2)) (hz : items.length + items2.length ≤ 1000000)
    (h : ∀ h' n', Fx b L h' m ((l, LO (items ++ items2) n') :: own) → Q .none ⟨h', gs, dr, tk, os⟩) : wpAny (model prog w) A (call (.builtin "list.extend") [.ref l, .ref l2]) Q E ⟨hp, gs, dr, tk, os⟩ := by
  have hz' : items.toArray.size + items2.toArray.size ≤ sizeLine := by rw [List.size_toArray, List.size_toArray, sizeLine_eq]; omega
  refine call_meets PySem.F.slot_list_extend ⟨_, F.head, rfl⟩ PySem.F.entry_list_extend (PySem.F.args_list_extend_2 _ _) (AutoSeq1.list_extend_list_list_0 l items.toArray n l2 items2.toArray n2 (extend_door hz') (Nat.le_trans (Nat.le_add_right _ _) hz') (Nat.le_succ_of_le hz')) ⟨F.head, hl2, ?_⟩
  have F' := F.upd (Obj.mapSeq fun x => x ++ items2.toArray) (by rw [mapSeq_app]; rfl)
  rw [mapSeq_app] at F'
  exact h _ _ (by simpa using F')
theorem lc_len {Q : Value → Shared → Prop} (hl : hp.get? l = some (LO items n)) (hz : items.length ≤ 1000000)
    (h : ∀ t tk', Q (.int items.length t) ⟨hp, gs, dr, tk', os⟩) : wpAny (model prog w) A (call (.builtin "len") [.ref l]) Q E ⟨hp, gs, dr, tk, os⟩ := by
  refine Calls.call_function_entry kind_len plain_len entry_len (args_len1 _) (wpAny_len_body_list (isList_of hl) (by rw [List.size_toArray]; omega) ?_)
  rw [List.size_toArray]
  exact h _ _
theorem tr_list {Q : Bool → Shared → Prop} (hl : hp.get? l = some (LO items n)) (hz : items.length ≤ 1000000)
    (h : ∀ tk', Q (!items.isEmpty) ⟨hp, gs, dr, tk', os⟩) : wpAny (model prog w) A (truthy (.ref l)) Q E ⟨hp, gs, dr, tk, os⟩ := by
  refine wpAny_truthy_list (isList_of hl) (by rw [List.size_toArray]; omega) ?_
  have e : items.toArray.isEmpty = items.isEmpty := by simp
  rw [e]
  exact h _
/-- an item of a list at a place in bounds -/
theorem sub_list {value slice : Expr} {k : Int} {t : Tok} {Q : Value → Shared → Prop} (hl : hp.get? l = some (LO items n)) (h0 : 0 ≤ k) (hk : k < 1000000) (hx : items[k.toNat]? = some v) (h : Q v ⟨hp, gs, dr, tk, os⟩)
    (hs : subscripted slice false (.ref l) (.int k t) = operate [.ref l, .int k t] (getItem (.ref l) (.int k t)) := by with_unfolding_all rfl) :
    wpAny (model prog w) A (subscriptTail value slice (.ref l) (.int k t)) Q E ⟨hp, gs, dr, tk, os⟩ :=
  tail_any (isList_of hl).typeIs slot_list_getitem.lookup (wpAny_getItem_list (isList_of hl) h0 (by omega) (by simpa using hx) h) hs
/-- a new list by its display -/
theorem nl {its : List Value} {Q : Value → Shared → Prop} (F : Fx b L hp m own) (h : ∀ D h', Fx b L h' m ((D, LO its 0) :: own) → Ext hp h' → Q (.ref D) ⟨h', gs, dr, tk, os⟩) (hz : its.length ≤ 1000000 := by decide) :
    wpAny (model prog w) A (newList its) Q E ⟨hp, gs, dr, tk, os⟩ :=
  wpAny_newList (h _ _ (F.push _) (.of_push _)) (by rw [sizeLine_eq]; omega)
end

section
variable {prog : Program} {w : World} {A : Around} {E : Value → Shared → Prop} {hp : Heap} {gs : Array GenState} {dr : Drawn} {tk₀ : Nat} {os : OsState} {R : Result → Shared → Prop}
/-- a for over a list that the base holds -/
theorem for_list {x : Str} {px : Pos} {body : List Stmt} {b : Heap} {L a l : Addr} {m : Str → Option Value} {own : List (Addr × Obj)} {cn : Str} {cs : Scope} {ccd : Value} {cl : List (Str × Addr)} {items : List Value} {n : Nat}
    (F : Fx b L hp m own) (hl : b.get? l = some (LO items n)) (hh : A.handled = none)
    (Inv : Nat → Heap → (Str → Option Value) → List (Addr × Obj) → Prop) (h0 : Inv 0 b m own)
    (step : ∀ i v b₁ m₁ own₁ h₁ tk₁ it E', i < items.length → items[i]? = some v → Inv i b₁ m₁ own₁ → Ext b b₁ → Fx b₁ L h₁ (fun y => if y = x then some v else m₁ y) (own₁ ++ it) →
      wpAny (model prog w) A (execs body (envX cn cs L a ccd cl)) (Turned gs dr os L it b₁ (Inv (i + 1)) fun f s' => R (.ok f) s') E' ⟨h₁, gs, dr, tk₁, os⟩)
    (fin : ∀ h' tk b' m' own', Inv items.length b' m' own' → Ext b b' → Fx b' L h' m' own' → R (.ok .next) ⟨h', gs, dr, tk, os⟩)
    (hk : cs.kind = .function := by with_unfolding_all rfl) (hx : (envX cn cs L a ccd cl).kindOf x = some .local := by with_unfolding_all rfl) :
    wpAny (model prog w) A (pyIter (.ref l)) (fun it s₂ => codeAny (model prog w) A (.forLoop (.Name x px) it body [] (envX cn cs L a ccd cl)) R s₂) E ⟨hp, gs, dr, tk₀, os⟩ := by
  have hl' := F.keep _ _ hl
  have hne : l ≠ hp.objs.size := Nat.ne_of_lt (Heap.lt_size hl')
  refine wpAny_pyIter_list (isList_of hl') ?_
  dsimp only
  have fr := F.fresh
  have W : Walks prog w A hp.objs.size [hp.objs.size, l] [hp.objs.size] items.length (fun i v => items[i]? = some v) (fun i h => h.IsListIter hp.objs.size l i ∧ h.IsList l items.toArray) := by simpa using Walks.list (prog := prog) (w := w) hh hp.objs.size l hne items.toArray
  refine loop_walk W ⟨⟨_, Heap.get?_push_size _ rfl, rfl, rfl⟩, (isList_of hl').push _⟩ (F.ext (.of_push _)) (fun c hc hw => ?_) (fun c hc => ?_) (by simp) (fun i h st c hc => ?_) Inv h0 step fin hk hx
  · rcases List.mem_cons.mp hc with rfl | hc
    · exact absurd (List.mem_singleton.mpr rfl) hw
    · rw [List.mem_singleton.mp hc]; exact ⟨_, hl⟩
  · rw [List.mem_singleton.mp hc]; exact ⟨fr.1, fr.2.1.symm, fr.2.2⟩
  · rw [List.mem_singleton.mp hc]; obtain ⟨o, ho, _⟩ := st.1; exact ⟨o, ho⟩
end

section
variable {prog : Program} {w : World} {A : Around} {E : Value → Shared → Prop} {hp : Heap} {gs : Array GenState} {dr : Drawn} {tk : Nat} {os : OsState} {b : Heap} {L : Addr} {m : Str → Option Value} {own : List (Addr × Obj)} {env : Env}
theorem assign_tup2 {e1 e2 : Expr} {k : Nat} {pos : Pos} {t : Addr} {v1 v2 : Value} {n : Nat} {Q : Unit → Shared → Prop} (F : Fx b L hp m own) (hh : A.handled = none) (ht : hp.get? t = some (TO [v1, v2] n))
    (h : ∀ h', Fx b L h' m own → Ext hp h' → wpAny (model prog w) A (assign e1 env v1) (fun _ s₁ => wpAny (model prog w) A (assign e2 env v2) Q E s₁) E ⟨h', gs, dr, tk, os⟩)
    (he : assignEach [e1, e2] env = [(false, assign e1 env), (false, assign e2 env)] := by with_unfolding_all rfl) :
    wpAny (model prog w) A (assign (.Tuple [e1, e2] k pos) env (.ref t)) Q E ⟨hp, gs, dr, tk, os⟩ := by
  refine wpAny_assign_Tuple (items := [v1, v2].toArray) hh ⟨_, ht, rfl, n, rfl⟩ (by rw [he]; rfl) (by rw [he]; rfl) fun h' e => ?_
  have ex : Ext hp h' := fun c oc q => e c oc (Nat.ne_of_lt (Heap.lt_size q)) q
  rw [he]
  show wpAny _ _ (holding [v2] (assign e1 env v1) >>= fun _ => holding [] (assign e2 env v2) >>= fun _ => pure ()) _ _ _
  refine wpAny_bind (wpAny_holding (wpAny_mono (h h' (F.ext ex) ex) (fun _ s₁ z => wpAny_bind (wpAny_holding (wpAny_mono z (fun _ _ y => wpAny_pure y) fun _ _ y => y))) fun _ _ y => y))
theorem assign_attr {o : Expr} {attr : Str} {pos : Pos} {v : Value} {Q : Unit → Shared → Prop} (h : wpAny (model prog w) A (eval o env) (fun ov s₁ => wpAny (model prog w) A (setAttr ov attr v) Q E s₁) E ⟨hp, gs, dr, tk, os⟩) :
    wpAny (model prog w) A (assign (.Attribute o attr pos) env v) Q E ⟨hp, gs, dr, tk, os⟩ := fun Γ p hΓ => by
  simp only [assign_Attribute, Sem.wp_bind', Sem.wp_holding, Sem.wp_cmd_standAt, Sem.wp_release, Sem.wp_pure']
  exact Sem.wp_mono _ Γ _ (fun ov p₁ s₁ h₁ => h₁ Γ _ hΓ) (fun _ _ _ h' => h') _ _ (h Γ _ hΓ)
/-- a new tuple by its display -/
theorem nt {its : List Value} {Q : Value → Shared → Prop} (F : Fx b L hp m own) (h : ∀ D h', Fx b L h' m ((D, TO its 0) :: own) → Ext hp h' → Q (.ref D) ⟨h', gs, dr, tk, os⟩) (hz : its.length ≤ 1000000 := by decide) :
    wpAny (model prog w) A (newTuple its) Q E ⟨hp, gs, dr, tk, os⟩ :=
  wpAny_newTuple (h _ _ (F.push _) (.of_push _)) (by rw [sizeLine_eq]; omega)
end

/-- a cut of a list -/
def cutL (items : List Value) (lo hi : Option Int) : List Value := (slicePick items.toArray lo hi none).toList
theorem cutL_length (items : List Value) (lo hi : Option Int) : (cutL items lo hi).length ≤ items.length := by
  have := slicePick_size_le items.toArray lo hi none
  simpa [cutL] using this
section
variable {prog : Program} {w : World} {A : Around} {E : Value → Shared → Prop} {hp : Heap} {gs : Array GenState} {dr : Drawn} {tk : Nat} {os : OsState} {b : Heap} {L : Addr} {m : Str → Option Value} {own : List (Addr × Obj)} {env : Env}
def Cut (Q : Value → Shared → Prop) (o vl vu : Value) (s : Shared) : Prop := ∃ l items lo hi, o = .ref l ∧ s.heap.IsList l items ∧ items.size ≤ sizeLine ∧ IsPart vl lo ∧ IsPart vu hi ∧
  Q (.ref (s.heap.objs.size + 1)) { s with heap := (s.heap.push { cls := .type "slice", data := .fields #[vl, vu, .none] }).push { cls := .type "list", data := .seq (slicePick items lo hi none) } }
theorem sub_slice {s : Shared} {value : Expr} {lower upper : Option Expr} {p pos : Pos} {Q : Value → Shared → Prop}
    (h : wpAny (model prog w) A (eval value env) (fun o s₁ => wpAny (model prog w) A (evalPart lower env) (fun vl s₂ => wpAny (model prog w) A (evalPart upper env) (fun vu s₃ => Cut Q o vl vu s₃) E s₂) E s₁) E s)
    (ht : ∀ o r, letTemporaryGo value o r = pure () := by intro _ _; rfl) :
    wpAny (model prog w) A (eval (.Subscript value (.Slice lower upper none p) pos) env) Q E s := wpAny_Subscript_list_slice h ht
theorem ep_none {s : Shared} {Q : Value → Shared → Prop} (h : Q .none s) : wpAny (model prog w) A (evalPart none env) Q E s := by rw [evalPart_none]; exact wpAny_pure h
theorem ep_some {s : Shared} {e : Expr} {Q : Value → Shared → Prop} (h : wpAny (model prog w) A (eval e env) Q E s) : wpAny (model prog w) A (evalPart (some e) env) Q E s := by rw [evalPart_some]; exact h
theorem cut_list {l : Addr} {items : List Value} {n : Nat} {vl vu : Value} {lo hi : Option Int} {Q : Value → Shared → Prop} (F : Fx b L hp m own) (hl : hp.get? l = some (LO items n)) (hz : items.length ≤ 1000000) (pl : IsPart vl lo) (pu : IsPart vu hi)
    (h : ∀ D h', Fx b L h' m ((D, LO (cutL items lo hi) 0) :: own) → Ext hp h' → Q (.ref D) ⟨h', gs, dr, tk, os⟩) : Cut Q (.ref l) vl vu ⟨hp, gs, dr, tk, os⟩ := by
  refine ⟨l, items.toArray, lo, hi, rfl, isList_of hl, by rw [List.size_toArray, sizeLine_eq]; omega, pl, pu, ?_⟩
  have F' := (F.ext (.of_push { cls := .type "slice", data := .fields #[vl, vu, .none] })).push (LO (cutL items lo hi) 0)
  rw [Heap.size_push] at F'
  have e : (LO (cutL items lo hi) 0) = { cls := .type "list", data := .seq (slicePick items.toArray lo hi none) } := by simp [cutL]
  have ex : Ext hp ((hp.push { cls := .type "slice", data := .fields #[vl, vu, .none] }).push (LO (cutL items lo hi) 0)) := (Ext.of_push _).push _
  have z := h _ _ F' ex
  rw [e] at z
  exact z
end
section
variable {b h hp : Heap} {L a x : Addr} {m : Str → Option Value} {own : List (Addr × Obj)} {p q r : Addr × Obj}
theorem none_of_hide1 (e : (hideAll hp [x]).get? a = none) (n : a ≠ x) : hp.get? a = none := by
  cases q : hp.get? a with
  | none => rfl
  | some o => rw [hideAll_get [x] q (by simpa using n)] at e; cases e
theorem Fx.ne12 (F : Fx b L h m (p :: q :: own)) : p.1 ≠ q.1 := by
  have nd := F.nodup
  simp only [List.map_cons, List.nodup_cons, List.mem_cons, not_or] at nd
  exact nd.2.1.1
theorem Fx.ne13 (F : Fx b L h m (p :: q :: r :: own)) : p.1 ≠ r.1 := by
  have nd := F.nodup
  simp only [List.map_cons, List.nodup_cons, List.mem_cons, not_or] at nd
  exact nd.2.1.2.1
end
theorem Fx.take2 {b h h' : Heap} {L a a₂ : Addr} {m : Str → Option Value} {o o₂ : Obj} (F : Fx b L h m []) (eg : Ext h (hideAll h' [a, a₂])) (hne : a ≠ a₂) (ha : h'.get? a = some o) (ha₂ : h'.get? a₂ = some o₂) (n1 : h.get? a = none) (n2 : h.get? a₂ = none) :
    ∃ b', Ext b b' ∧ Fx b' L h' m [(a, o), (a₂, o₂)] ∧ ∀ c oc, c ≠ L → (hideAll h' [a, a₂]).get? c = some oc → b'.get? c = some oc := by
  have up : Ext h h' := fun c oc e => of_hideAll _ (eg c oc e)
  have L1 : L ≠ a := fun q => by obtain ⟨oL, _, _, hL, _⟩ := F.ns; rw [q, n1] at hL; cases hL
  have L2 : L ≠ a₂ := fun q => by obtain ⟨oL, _, _, hL, _⟩ := F.ns; rw [q, n2] at hL; cases hL
  have mem : ∀ {c oc}, (hideAll h' [a, a₂]).get? c = some oc → c ∉ [a, a₂] := fun {c oc} e q => by rw [hideAll_none _ q] at e; cases e
  refine ⟨hideAll h' [L, a, a₂], fun c oc e => hideAll_get _ (up c oc (F.keep c oc e)) (fun q => ?_), ⟨F.ns.keeps up, fun c oc e => of_hideAll _ e, hideAll_none _ (.head _), fun p hp => ?_, fun p hp => hideAll_none _ (.tail _ ?_), ?_⟩, fun c oc nL e => hideAll_get _ (of_hideAll _ e) (fun q => ?_)⟩
  · rcases List.mem_cons.mp q with rfl | q
    · rw [F.lout] at e; cases e
    · exact mem (eg c oc (F.keep c oc e)) q
  · rcases List.mem_cons.mp hp with rfl | hp
    · exact ha
    · rw [List.mem_singleton.mp hp]; exact ha₂
  · rcases List.mem_cons.mp hp with rfl | hp
    · exact .head _
    · rw [List.mem_singleton.mp hp]; exact .tail _ (.head _)
  · simp [L1, L2, hne]
  · rcases List.mem_cons.mp q with rfl | q
    · exact nL rfl
    · exact mem e q
theorem Fx.only {b h h' : Heap} {L : Addr} {m : Str → Option Value} {own : List (Addr × Obj)} (F : Fx b L h m own) {as : List Addr} (e : Ext (hideAll h as) h') (hs : ∀ a ∈ as, a ∈ own.map (·.1)) : Fx b L h' m [] := by
  have nd := List.nodup_cons.mp F.nodup
  obtain ⟨oL, es, ep, gL, r⟩ := F.ns
  refine ⟨⟨oL, es, ep, e _ _ (hideAll_get _ gL fun q => nd.1 (hs _ q)), r⟩, fun c oc q => e c oc (hideAll_get _ (F.keep c oc q) fun z => ?_), F.lout, (fun _ q => nomatch q), (fun _ q => nomatch q), by simp⟩
  obtain ⟨p, hp, rfl⟩ := List.mem_map.mp (hs _ z)
  rw [F.out p hp] at q; cases q
abbrev RgO (a b c : Int) (t u v : Tok) : Obj := { cls := .type "range", data := .fields #[.int a t, .int b u, .int c v] }
section
variable {prog : Program} {w : World} {A : Around} {E : Value → Shared → Prop} {hp : Heap} {gs : Array GenState} {dr : Drawn} {tk : Nat} {os : OsState} {b : Heap} {L : Addr} {m : Str → Option Value} {own : List (Addr × Obj)} {Q : Value → Shared → Prop} {x y z : Int} {t u v : Tok}
theorem rg2 (F : Fx b L hp m own) (h : ∀ D h' v tk', Fx b L h' m ((D, RgO x y 1 t u v) :: own) → Ext hp h' → Q (.ref D) ⟨h', gs, dr, tk', os⟩) :
    wpAny (model prog w) A (call (.type "range") [.int x t, .int y u]) Q E ⟨hp, gs, dr, tk, os⟩ := call_range_2 (h _ _ _ _ (F.push _) (.of_push _))
theorem rg1 (F : Fx b L hp m own) (h : ∀ D h' t v tk', Fx b L h' m ((D, RgO 0 y 1 t u v) :: own) → Ext hp h' → Q (.ref D) ⟨h', gs, dr, tk', os⟩) :
    wpAny (model prog w) A (call (.type "range") [.int y u]) Q E ⟨hp, gs, dr, tk, os⟩ := call_range_1 (h _ _ _ _ _ (F.push _) (.of_push _))
end

theorem rsize_bound {x y z : Int} (hx : -1000000 ≤ x ∧ x ≤ 1000000) (hy : -1000000 ≤ y ∧ y ≤ 1000000) (hz : z ≠ 0) : 0 ≤ Builtin.Range.rangeSize x y z ∧ Builtin.Range.rangeSize x y z ≤ 3000000 := by
  unfold Builtin.Range.rangeSize
  have key : ∀ d k : Int, 0 ≤ d → 1 ≤ k → 0 ≤ d / k ∧ d / k ≤ d := fun d k hd hk => ⟨Int.ediv_nonneg hd (by omega), Int.ediv_le_self _ hd⟩
  split
  · split
    · have := key (y - x - 1) z (by omega) (by omega); omega
    · omega
  · split
    · have := key (x - y - 1) (-z) (by omega) (by omega); omega
    · omega
theorem rsmall {x y z : Int} (hx : -1000000 ≤ x ∧ x ≤ 1000000) (hy : -1000000 ≤ y ∧ y ≤ 1000000) (hz : -1000000 ≤ z ∧ z ≤ 1000000) (h0 : z ≠ 0) : Builtin.Range.small x y z = true := by
  have hb := rsize_bound hx hy h0
  unfold Builtin.Range.small Builtin.Range.rangeFitsLong
  simp only [Bool.and_eq_true, decide_eq_true_eq, Bool.or_eq_true]
  refine ⟨⟨⟨⟨⟨by omega, by omega⟩, by omega, by omega⟩, by omega, by omega⟩, by omega, by omega⟩, .inr ?_⟩
  split <;> simp <;> omega
section
variable {prog : Program} {w : World} {A : Around} {E : Value → Shared → Prop} {hp : Heap} {gs : Array GenState} {dr : Drawn} {tk₀ : Nat} {os : OsState} {R : Result → Shared → Prop}
/-- a for over a range -/
theorem for_range {x : Str} {px : Pos} {body : List Stmt} {b : Heap} {L a r : Addr} {m : Str → Option Value} {own : List (Addr × Obj)} {cn : Str} {cs : Scope} {ccd : Value} {cl : List (Str × Addr)} {i0 i1 st : Int} {t u v : Tok} {n : Nat}
    (F : Fx b L hp m own) (hr : hp.get? r = some (RgO i0 i1 st t u v)) (hsm : Builtin.Range.small i0 i1 st = true) (hn : Builtin.Range.rangeSize i0 i1 st = n) (hh : A.handled = none)
    (Inv : Nat → Heap → (Str → Option Value) → List (Addr × Obj) → Prop) (h0 : Inv 0 b m own)
    (step : ∀ (i : Nat) tv b₁ m₁ own₁ h₁ tk₁ it E', i < n → Inv i b₁ m₁ own₁ → Ext b b₁ → Fx b₁ L h₁ (fun y => if y = x then some (.int (i0 + i * st) tv) else m₁ y) (own₁ ++ it) →
      wpAny (model prog w) A (execs body (envX cn cs L a ccd cl)) (Turned gs dr os L it b₁ (Inv (i + 1)) fun f s' => R (.ok f) s') E' ⟨h₁, gs, dr, tk₁, os⟩)
    (fin : ∀ h' tk b' m' own', Inv n b' m' own' → Ext b b' → Fx b' L h' m' own' → R (.ok .next) ⟨h', gs, dr, tk, os⟩)
    (hk : cs.kind = .function := by with_unfolding_all rfl) (hx : (envX cn cs L a ccd cl).kindOf x = some .local := by with_unfolding_all rfl) :
    wpAny (model prog w) A (pyIter (.ref r)) (fun it s₂ => codeAny (model prog w) A (.forLoop (.Name x px) it body [] (envX cn cs L a ccd cl)) R s₂) E ⟨hp, gs, dr, tk₀, os⟩ := by
  refine wpAny_pyIter_range hr hsm ?_
  dsimp only
  have fr := F.fresh
  have W := Walks.range (prog := prog) (w := w) hh hp.objs.size i0 st n
  refine loop_walk W ?_ (F.ext (.of_push _)) (fun c hc hw => absurd hc hw) (fun c hc => ?_) (by simp) (fun i h st c hc => ?_) Inv h0 (fun i v b₁ m₁ own₁ h₁ tk₁ it E' hi hv => ?_) fin hk hx
  · rw [hn]
    have := Heap.get?_push_size hp (o := { cls := .type "range_iterator", data := .fields #[rawInt i0, rawInt (n : Int), rawInt st] }) rfl
    simpa [IsRangeIter] using this
  · rw [List.mem_singleton.mp hc]; exact ⟨fr.1, fr.2.1.symm, fr.2.2⟩
  · rw [List.mem_singleton.mp hc]; exact ⟨_, st⟩
  · obtain ⟨tv, rfl⟩ := hv
    exact step i tv b₁ m₁ own₁ h₁ tk₁ it E' hi
end
theorem x_neg {prog : Program} {w : World} {A : Around} {E : Value → Shared → Prop} {hp : Heap} {gs : Array GenState} {dr : Drawn} {tk : Nat} {os : OsState} {Q : Value → Shared → Prop} {a : Int} {t : Tok} (h : Q (.int (-a) tk) ⟨hp, gs, dr, tk + 1, os⟩) : wpAny (model prog w) A (unaryOp .USub (.int a t)) Q E ⟨hp, gs, dr, tk, os⟩ := PySem.P.neg_int h
/-! slice objects -/
abbrev SlO (a b c : Value) : Obj := { cls := .type "slice", data := .fields #[a, b, c] }
namespace Sl
section
variable {prog : Program} {w : World} {A : Around} {E : Value → Shared → Prop} {h : Heap} {g : Array GenState} {d : Drawn} {t : Nat} {os : OsState} {l : Addr} {a b c : Value}
end
end Sl
namespace Sl
end Sl
section
variable {prog : Program} {w : World} {A : Around} {E : Value → Shared → Prop} {hp : Heap} {gs : Array GenState} {dr : Drawn} {tk : Nat} {os : OsState} {b : Heap} {L l sl : Addr} {m : Str → Option Value} {own : List (Addr × Obj)} {items : List Value} {n : Nat} {v vl vu vs : Value} {lo hi st : Option Int}
/-- a list cut by a slice object -/
def pickL (items : List Value) (lo hi st : Option Int) : List Value := (slicePick items.toArray lo hi st).toList
theorem gi_slice {Q : Value → Shared → Prop} (F : Fx b L hp m own) (hl : hp.get? l = some (LO items n)) (hs : hp.get? sl = some (SlO vl vu vs)) (pl : IsPart vl lo) (pu : IsPart vu hi) (ps : IsPart vs st) (h0 : st ≠ some 0) (hz : items.length ≤ 1000000)
    (h : ∀ D h', Fx b L h' m ((D, LO (pickL items lo hi st) 0) :: own) → Ext hp h' → Q (.ref D) ⟨h', gs, dr, tk, os⟩) : wpAny (model prog w) A (getItem (.ref l) (.ref sl)) Q E ⟨hp, gs, dr, tk, os⟩ :=
  wpAny_getItem_list_slice (isList_of hl) ⟨_, hs, rfl, rfl⟩ pl pu ps h0 (by
    have z := h _ _ (F.push (LO (pickL items lo hi st) 0)) (.of_push _)
    simpa [pickL] using z) (by rw [List.size_toArray, sizeLine_eq]; omega)
/-- the places that a del of a slice takes -/
def selD (start stop : Int) (i : Nat) : Bool := decide (start ≤ i) && decide (i < stop)
def sel3 (start stop step : Int) (i : Nat) : Bool :=
  if step > 0 then start ≤ i && i < stop && (i - start) % step == 0
  else stop < i && i ≤ start && (start - i) % (-step) == 0
def delL (items : List Value) (lo hi : Option Int) : List Value :=
  items.zipIdx.filterMap fun (x, k) => if selD (sliceBounds lo hi none items.length).1 (sliceBounds lo hi none items.length).2.1 k then none else some x
end
/-- an exception of a builtin class is under way -/
def Thrown (base hp : Heap) (outer : List Env) (cls : String) (e : Addr) (h' : Heap) : Prop := ∃ a0, Heap.FlyingW base outer e (.type cls) a0 h' ∧ hp.UpToSlots h'
section
variable {prog : Program} {w : World} {A : Around} {E : Value → Shared → Prop} {hp h₁ h₂ base : Heap} {gs : Array GenState} {dr : Drawn} {tk : Nat} {os : OsState} {b : Heap} {L f e : Addr} {m : Str → Option Value} {own : List (Addr × Obj)} {outer : List Env} {cls : String} {cn : Str} {cs : Scope} {ccd : Value} {cl : List (Str × Addr)}
theorem frames_of (F : Fx b L h₁ m own) (hk : cs.kind ≠ .module) (hn : base.get? L = none) (hff : h₁.FunFrames base outer) : h₁.FunFrames base (envX cn cs L f ccd cl :: outer) :=
  Heap.FunFrames.cons (env := envX cn cs L f ccd cl) hk rfl F.ns hn hff
/-- a new exception leaves the frame in which it arose -/
theorem leave_new {Q : Unit → Shared → Prop} (F : Fx b L h₁ m own) (eb : Ext hp b) (hfr : A.frames = some outer) (hb : Ext base hp) (hff : hp.FunFrames base outer) (x : Heap.NewExc h₁ h₂ e cls)
    (h : ∀ h', Thrown base hp outer cls e h' → Q () ⟨h', gs, dr, tk, os⟩) (hk : cs.kind ≠ .module := by with_unfolding_all decide) :
    wpAny (model prog w) (A.deeper (envX cn cs L f ccd cl)) (leaving (envX cn cs L f ccd cl) (.ref e)) Q E ⟨h₂, gs, dr, tk, os⟩ := by
  obtain ⟨ob, tp, he, hcls, hd⟩ := x.there
  have e1 : Ext hp h₁ := eb.trans F.keep
  have e2 : Ext hp h₂ := e1.trans x.keeps
  have hen : base.get? e = none := (hb.trans e1).none x.new
  have hff2 : h₂.FunFrames base outer := hff.of_keeps fun c o hc _ => ⟨o, e2 c o hc, rfl⟩
  have F2 := F.ext x.keeps
  refine wpAny_leaving_firstW (base := base) (Around.frames_deeper hfr) (frames_of F2 hk ((hb.trans eb).none F.lout) hff2) rfl he (fun c o hc => e2 c o (hb c o hc)) hen hd rfl rfl fun h' hL => ?_
  obtain ⟨k1, ⟨_, _, k2⟩, k3, k4⟩ := hL
  rw [hcls] at k3
  exact h h' ⟨_, ⟨k1, hen, k2, k3⟩, (Heap.UpToSlots.of_keeps e2).trans k4⟩
/-- an exception passes through a frame -/
theorem leave_on {Q : Unit → Shared → Prop} {hq : Heap} (hfr : A.frames = some outer) (hf : Ext hp h₁) (x : Thrown base h₁ (envX cn cs L f ccd cl :: outer) cls e h₂)
    (h : ∀ h', Thrown base hp outer cls e h' → Q () ⟨h', gs, dr, tk, os⟩) :
    wpAny (model prog w) (A.deeper (envX cn cs L f ccd cl)) (leaving (envX cn cs L f ccd cl) (.ref e)) Q E ⟨h₂, gs, dr, tk, os⟩ := by
  obtain ⟨a0, fl, up⟩ := x
  refine wpAny_leaves_onW (base := base) (Around.frames_deeper hfr) rfl fl fun h' fl' up' => ?_
  exact h h' ⟨a0, fl', ((Heap.UpToSlots.of_keeps hf).trans up).trans up'⟩
theorem Fx.slots (F : Fx b L h₁ m own) (hb : Ext b base) (ho : ∀ p ∈ own, base.get? p.1 = some p.2) (k : Ext base h₂) (u : h₁.UpToSlots h₂) : Fx b L h₂ m own :=
  ⟨u.ns F.ns, hb.trans k, F.lout, fun p hp => k _ _ (ho p hp), F.out, F.nodup⟩
/-- the clause that catches it -/
theorem caught {K : Frag} {mg mb : Str → Option Value} {x : Str} {px pos : Pos} {b₀ : Stmt} {suite : List Stmt} {rest : List ExceptHandler} {Q : Flow → Shared → Prop} (F : Fx b L h₁ m own) (T : Tp K mg mb b) (hb : Ext b base) (ho : ∀ p ∈ own, base.get? p.1 = some p.2)
    (hfr : A.frames = some (envX cn cs L f ccd cl :: outer)) (x1 : Thrown base h₁ (envX cn cs L f ccd cl :: outer) cls e h₂)
    (hg : nsIn K mainGlobals x = some none) (hv : bootBuiltins x = some (.type cls)) (hn : x ≠ "__name__")
    (hexc : isSubtype (.type cls) (.type "BaseException") = pure true) (hnt : isSubtype (.type ((Manifest.find? cls).elim "type" fun x => x.metatype)) (.type "tuple") = pure false) (hsub : isSubtype (.type cls) (.type cls) = pure true)
    (h : ∀ h' tk E', Fx b L h' m own → Ext base h' → h₁.UpToSlots h' → h'.FunFrames base (envX cn cs L f ccd cl :: outer) → wpAny (model prog w) (A.mark (some (.ref e))) (execs (b₀ :: suite) (envX cn cs L f ccd cl)) Q E' ⟨h', gs, dr, tk, os⟩)
    (hk : cs.kind = .function := by with_unfolding_all rfl) (hx : (envX cn cs L f ccd cl).kindOf x = some .globalImplicit := by with_unfolding_all rfl) (hd : (x == ("__debug__" : Str)) = false := by decide) :
    wpAny (model prog w) A (noteFrame (.ref e) (envX cn cs L f ccd cl)) (fun _ s₂ => wpAny (model prog w) A (setFlight (.ref e) none) (fun _ s₃ => wpAny (model prog w) A (handleBy (.ref e) (envX cn cs L f ccd cl) (.ExceptHandler (some (.Name x px)) none (b₀ :: suite) pos :: rest)) Q E s₃) E s₂) E ⟨h₂, gs, dr, tk, os⟩ := by
  obtain ⟨a0, fl, up⟩ := x1
  refine wpAny_looks_onW (base := base) hfr rfl fl fun h3 held u3 => ?_
  refine wpAny_landsW held fun h4 fl4 u4 => ?_
  have F4 : Fx b L h4 m own := F.slots hb ho fl4.1 ((up.trans u3).trans u4)
  refine wpAny_handleBy_builtin (X := cls) (T := cls) (b := true) hexc hnt hsub ?_
  refine n_blt F4 T hg hv ⟨rfl, fl4.there, ?_⟩ hn hk hx hd
  simp only [if_true]
  refine wpAny_setFlight_noneW fl4.1 fl4.2.2.1 fl4.2.2.2.at fun h5 k1 k2 k3 k4 => ?_
  have u5 : h4.UpToSlots h5 := fun c o hc hn => ⟨o.slots, k4 c o hc hn⟩
  have u := ((up.trans u3).trans u4).trans u5
  exact h h5 _ _ (F.slots hb ho k1 u) k1 u k2
end
namespace Rz
end Rz
/-! calls of defs with cells -/
abbrev CX (o : Obj) (v : Option Value) : Obj := { o with data := .cell v }
section
variable {M : Model} {A : Around} {E : Value → Shared → Prop} {hp : Heap} {gs : Array GenState} {dr : Drawn} {tk : Nat} {os : OsState} {b : Heap} {L a : Addr} {m : Str → Option Value} {own : List (Addr × Obj)} {cn : Str} {cs : Scope} {ccd : Value} {cl : List (Str × Addr)}
  {x : Str} {v : Value} {c : Addr} {o : Obj}
end
section
variable {prog : Program} {w : World} {A : Around} {hp : Heap} {gs : Array GenState} {dr : Drawn} {tk : Nat} {os : OsState} {R : Result → Shared → Prop} {name qual : Str} {params : Arguments} {body : List Stmt} {scope : Scope} {dV kV doc pm cdv ct : Value} {an : Option Addr} {fo : Obj} {f : Addr} {args : Args} {binds : List (Str × Value)}
/-- the cells of a frame at L -/
def cellsOwn (L : Addr) (scope : Scope) (cm : Str → Option Value) (ob : Addr → Obj) : List (Addr × Obj) := (cellsFrom (L + 1) scope.names []).map fun p => (p.2, CX (ob p.2) (cm p.1))
end

/-! list comprehensions over whole numbers -/
def pv (pp : Int → Bool) : Value → Bool
  | .int k _ => pp k
  | _ => false
def fv (g : Int → Int) (v y : Value) : Prop := ∃ k t t', v = .int k t ∧ y = .int (g k) t'
theorem ints_of : ∀ {vs : List Value} {ns : List Int}, vs.length = ns.length → (∀ (j : Nat) (v : Value), vs[j]? = some v → ∃ (k : Int) (t : Tok), ns[j]? = some k ∧ v = .int k t) → IntsAre vs ns
  | [], [], _, _ => .nil
  | v :: vs, n :: ns, hl, h => by
    obtain ⟨k, t, e1, rfl⟩ := h 0 v rfl
    cases e1
    exact .cons _ _ (ints_of (by simpa using hl) fun j v e => h (j + 1) v e)
section
variable {prog : Program} {w : World} {A : Around} {E : Value → Shared → Prop} {hp : Heap} {gs : Array GenState} {dr : Drawn} {tk : Nat} {os : OsState} {b : Heap} {L : Addr} {m : Str → Option Value} {own : List (Addr × Obj)} {env : Env} {Q : Value → Shared → Prop}
/-- what one turn of the comprehension does -/
structure Turns (prog : Program) (w : World) (A : Around) (env : Env) (scope : Scope) (cl : List (Str × Addr)) (x : Str) (ifs : List Expr) (elt : Expr) (ns : List Int) (pp : Int → Bool) (g : Int → Int) (hp : Heap) : Prop where
  tests : ∀ C k t h₃ gs dr tk os m₃ E', k ∈ ns → h₃.Ns C m₃ → m₃ x = some (.int k t) → Ext hp h₃ →
    wpAny (model prog w) A (forIn ifs true fun c r => if r = true then do let ok ← isTrue c (compEnvC scope cl C env) (eval c (compEnvC scope cl C env)); pure (ForInStep.yield ok) else pure (ForInStep.yield r))
      (fun ok s₄ => ok = pp k ∧ ∃ h' tk', s₄ = ⟨h', gs, dr, tk', os⟩ ∧ Ext h₃ h') E' ⟨h₃, gs, dr, tk, os⟩
  elt : ∀ C k t h₃ gs dr tk os m₃ E', k ∈ ns → pp k = true → h₃.Ns C m₃ → m₃ x = some (.int k t) → Ext hp h₃ →
    wpAny (model prog w) A (eval elt (compEnvC scope cl C env)) (fun y s₄ => (∃ t', y = .int (g k) t') ∧ ∃ h' tk', s₄ = ⟨h', gs, dr, tk', os⟩ ∧ Ext h₃ h') E' ⟨h₃, gs, dr, tk, os⟩
/-- the numbers of a range -/
def rangeL (a st : Int) (n : Nat) : List Int := (List.range n).map fun (i : Nat) => a + (i : Int) * st
end
section
variable {prog : Program} {w : World} {A : Around} {E : Value → Shared → Prop} {hp : Heap} {gs : Array GenState} {dr : Drawn} {tk : Nat} {os : OsState} {b : Heap} {L l l2 : Addr} {m : Str → Option Value} {own : List (Addr × Obj)} {items items2 : List Value} {n n2 : Nat} {Q : Value → Shared → Prop}
theorem lc_add (F : Fx b L hp m own) (hl : hp.get? l = some (LO items n)) (hl2 : hp.get? l2 = some (LO items2 n2)) (hz : items.length + items2.length ≤ 1000000)
    (h : ∀ D h', Fx b L h' m ((D, LO (items ++ items2) 0) :: own) → Ext hp h' → Q (.ref D) ⟨h', gs, dr, tk, os⟩) : wpAny (model prog w) A (binaryOp .Add (.ref l) (.ref l2)) Q E ⟨hp, gs, dr, tk, os⟩ := by
  refine concat_meets ⟨_, hl, rfl⟩ ⟨_, hl2, rfl⟩ noFill_list_add seq_list_add PySem.F.slot_list_add PySem.F.entry_list_add (PySem.F.args_list_add_2 _ _) (list_addW l l2 items.toArray items2.toArray n n2 none none #[] #[] (by rw [List.size_toArray, List.size_toArray, sizeLine_eq]; omega)) ⟨hl, hl2, ?_⟩
  have z := h _ _ (F.push (LO (items ++ items2) 0)) (.of_push _)
  simpa using z
theorem lc_range {r : Addr} {i0 i1 st : Int} {t u v : Tok} (F : Fx b L hp m own) (hr : hp.get? r = some (RgO i0 i1 st t u v)) (hsm : Builtin.Range.small i0 i1 st = true) (hn : Builtin.Range.rangeSize i0 i1 st = n) (hz : n ≤ 1000000) (hh : A.handled = none)
    (h : ∀ D c ys h' tk', Fx b L h' m ((D, LO ys c) :: own) → Ext hp h' → IntsAre ys (rangeL i0 st n) → Q (.ref D) ⟨h', gs, dr, tk', os⟩) : wpAny (model prog w) A (call (.type "list") [.ref r]) Q E ⟨hp, gs, dr, tk, os⟩ := by
  refine call_list_range hh hr hsm hn (by omega) fun h' tk' acc c hk hD hi => ?_
  refine h _ c acc.toList h' tk' (F.gain hk (none_at_size _) (by rw [hD])) hk (ints_of (by simp [rangeL, hi.1]) fun j v e => ?_)
  have e' : acc[j]? = some v := by simpa using e
  obtain ⟨t, rfl⟩ := hi.2 j v e'
  have hj : j < n := by
    have := (Array.getElem?_eq_some_iff.mp e').1
    rw [hi.1] at this; exact this
  exact ⟨_, t, by simp [rangeL, hj], rfl⟩
theorem x_fdiv {a c : Int} {t u : Tok} (hc : c ≠ 0) (hs : c.natAbs < 1073741824) (h : Q (.int (a.fdiv c) tk) ⟨hp, gs, dr, tk + 1, os⟩) : wpAny (model prog w) A (binaryOp .FloorDiv (.int a t) (.int c u)) Q E ⟨hp, gs, dr, tk, os⟩ :=
  floordiv_int (s := ⟨hp, gs, dr, tk, os⟩) hc h (.inl (PyProof.noPylong_small hs))
end
set_option maxHeartbeats 8000000
/-- the heap as a tree, object by object -/
def treeFrom : List Obj → Nat → BT → BT
  | [], _, t => t
  | o :: l, n, t => treeFrom l (n + 1) (t.ins n o)
def toT (s : Shared) : SharedT := ⟨treeFrom s.heap.objs.toList 0 .nil, s.heap.objs.size, s.heap.life, s.gens, s.drawn, s.toks, s.os⟩
/-- the tree holds just what the heap holds -/
def holdsAll (h : Heap) (t : BT) : List Obj → Nat → Bool
  | [], _ => true
  | _ :: l, n => (t.get n).isSome && holdsAll h t l (n + 1)
theorem ins_self (o : Obj) : ∀ (n : Nat) (t : BT), (∀ i, i < n → (t.get i).isSome = true) → ((t.ins n o).get n) = some o
  | n, .nil, h => by
    cases n with
    | zero => show (BT.node o .nil .nil).get 0 = _; rw [BT.get_node, if_pos rfl]
    | succ n => have := h 0 (by omega); simp [BT.get] at this
  | n, .node v l r, h => by
    rw [BT.ins_node]
    by_cases h0 : n = 0
    · rw [if_pos h0, BT.get_node, if_pos h0]
    · rw [if_neg h0]
      by_cases h1 : n % 2 = 1
      · rw [if_pos h1, BT.get_node, if_neg h0, if_pos h1]
        refine ins_self o (n / 2) l fun i hi => ?_
        have := h (2 * i + 1) (by omega)
        rw [BT.get_node, if_neg (by omega), if_pos (by omega), show (2 * i + 1) / 2 = i by omega] at this
        exact this
      · rw [if_neg h1, BT.get_node, if_neg h0, if_neg h1]
        refine ins_self o (n / 2 - 1) r fun i hi => ?_
        have := h (2 * i + 2) (by omega)
        rw [BT.get_node, if_neg (by omega), if_neg (by omega), show (2 * i + 2) / 2 - 1 = i by omega] at this
        exact this
termination_by n => n
decreasing_by all_goals omega
theorem treeFrom_get : ∀ (l pre : List Obj) (t : BT), (∀ i, i < pre.length → t.get i = pre[i]?) → ∀ i, i < (pre ++ l).length → (treeFrom l pre.length t).get i = (pre ++ l)[i]?
  | [], pre, t, h, i, hi => by
    rw [List.append_nil] at hi ⊢
    exact h i hi
  | o :: l, pre, t, h, i, hi => by
    have hs : ∀ i, i < pre.length → (t.get i).isSome = true := fun i hi => by
      rw [h i hi, List.getElem?_eq_getElem hi]; rfl
    have e := ins_self o pre.length t hs
    have q := treeFrom_get l (pre ++ [o]) (t.ins pre.length o) (fun j hj => by
      rw [List.length_append, List.length_singleton] at hj
      rw [BT.get_ins o t pre.length (by rw [e]; rfl)]
      by_cases x : j = pre.length
      · subst x; rw [if_pos rfl, List.getElem?_append_right (Nat.le_refl _), Nat.sub_self]; rfl
      · rw [if_neg x, List.getElem?_append_left (by omega)]; exact h j (by omega)) i (by simpa using hi)
    rw [List.length_append, List.length_singleton, List.append_assoc] at q
    exact q
theorem toT_abs (s : Shared) : (toT s).abs = s := by
  obtain ⟨⟨⟨l⟩, life⟩, gens, drawn, toks, os⟩ := s
  have e : BT.list (treeFrom l 0 .nil) l.length = l := by
    apply List.ext_getElem?
    intro i
    unfold BT.list
    rw [List.getElem?_map]
    by_cases h : i < l.length
    · rw [List.getElem?_range h]
      have := treeFrom_get l [] .nil (fun i hi => by cases hi) i (by simpa using h)
      show some (((treeFrom l 0 .nil).get i).getD default) = _
      have q : (treeFrom l 0 .nil).get i = l[i]? := this
      rw [q, List.getElem?_eq_getElem h]; rfl
    · rw [List.getElem?_eq_none (by rw [List.length_range]; omega), List.getElem?_eq_none (by omega)]; rfl
  show Shared.mk (absHeap (treeFrom l 0 .nil) l.length life) gens drawn toks os = _
  unfold absHeap
  rw [e]
abbrev Stp := SharedT → Thread → Option (SharedT × Thread)
def topRunT (stp : Stp) (n₀ : Nat) (ann : Option Value) : Nat → SharedT → Thread → Option SharedT
  | 0, _, _ => none
  | n + 1, s, t => match through t with
    | true => some s
    | false => match stepOk n₀ ann t with
      | false => none
      | true => match stp s t with
        | some (s', t') => topRunT stp n₀ ann n s' t'
        | none => none
theorem topRun_of {tb : String → Option Builtin} {p : Program} {w : World} {n₀ : Nat} {ann : Option Value} : ∀ {n : Nat} {s s' : SharedT} {t : Thread}, topRunT (stepT (denote tb) p w) n₀ ann n s t = some s' → topRun tb p w n₀ ann n s.abs t = some s'.abs
  | 0, _, _, _, h => by cases h
  | n + 1, s, s', t, h => by
    unfold topRunT at h
    unfold topRun
    cases ht : through t with
    | true => rw [ht] at h; cases h; rfl
    | false =>
      rw [ht] at h
      cases hk : stepOk n₀ ann t with
      | false => rw [hk] at h; cases h
      | true =>
        rw [hk] at h
        cases hs : stepT (denote tb) p w s t with
        | none => rw [hs] at h; cases h
        | some r => obtain ⟨s₂, t₂⟩ := r; rw [hs] at h; dsimp only; rw [stepT_spec hs]; exact topRun_of h
def impEndsT (stp : Stp) : Nat → SharedT → Thread → Option SharedT
  | 0, _, _ => none
  | n + 1, s, t => match t.atExitBegin with
    | some [] => some s
    | some (_ :: _) => none
    | none => match stp s t with
      | some (s', t') => impEndsT stp n s' t'
      | none => none
theorem impEnds_of {tb : String → Option Builtin} {p : Program} {w : World} : ∀ {n : Nat} {s s' : SharedT} {t : Thread}, impEndsT (stepT (denote tb) p w) n s t = some s' → importEnds tb p w n s.abs t = some s'.abs
  | 0, _, _, _, h => by cases h
  | n + 1, s, s', t, h => by
    unfold impEndsT at h
    unfold importEnds
    cases ht : t.atExitBegin with
    | some l => rw [ht] at h; cases l with
      | nil => cases h; rfl
      | cons => cases h
    | none =>
      rw [ht] at h
      cases hs : stepT (denote tb) p w s t with
      | none => rw [hs] at h; cases h
      | some r => obtain ⟨s₂, t₂⟩ := r; rw [hs] at h; dsimp only; rw [stepT_spec hs]; exact impEnds_of h
def endsT (stp : Program → Stp) (st : Program → Shared × Thread) (fen : Program → Shared → Option Shared) (p : Program) (N : Nat) : Option Shared :=
  match impEndsT (stp (opening p)) N (toT (st (opening p)).1) (st (opening p)).2 with
  | none => none
  | some a => match fen p a.abs with
    | none => none
    | some s₀ => match s₀.heap.isNs mainGlobals && s₀.gens.size == 0 with
      | false => none
      | true => match topRunT (stp p) s₀.heap.objs.size (s₀.heap.nsMap mainGlobals "__annotations__") N (toT s₀) (topStub p) with
        | none => none
        | some b => match staticsOk (importedModules p.main.body) s₀.heap b.abs.heap && namesBound p b.abs.heap && gensDone b.abs && laidKept s₀.heap b.abs.heap with
          | false => none
          | true => some b.abs
theorem ends_of {tb : String → Option Builtin} {p : Program} {w : World} {N : Nat} {s : Shared} (h : endsT (fun q => stepT (denote tb) q w) start fenceModules? p N = some s) : openEnds tb p w N = some s := by
  unfold endsT at h
  dsimp only at h
  cases e1 : impEndsT (stepT (denote tb) (opening p) w) N (toT (start (opening p)).1) (start (opening p)).2 with
  | none => rw [e1] at h; cases h
  | some a =>
    rw [e1] at h
    dsimp only at h
    have i := impEnds_of e1
    rw [toT_abs] at i
    cases e2 : fenceModules? p a.abs with
    | none => rw [e2] at h; cases h
    | some s₀ =>
      rw [e2] at h
      dsimp only at h
      unfold openEnds fencedOpening topFrom
      rw [i]
      dsimp only [Option.bind]
      rw [e2]
      dsimp only [Option.bind]
      cases e3 : s₀.heap.isNs mainGlobals && s₀.gens.size == 0 with
      | false => rw [e3] at h; cases h
      | true =>
        rw [e3] at h
        dsimp only at h ⊢
        cases e4 : topRunT (stepT (denote tb) p w) s₀.heap.objs.size (s₀.heap.nsMap mainGlobals "__annotations__") N (toT s₀) (topStub p) with
        | none => rw [e4] at h; cases h
        | some b =>
          rw [e4] at h
          dsimp only at h
          have j := topRun_of e4
          rw [toT_abs] at j
          rw [j]
          dsimp only
          cases e5 : staticsOk (importedModules p.main.body) s₀.heap b.abs.heap && namesBound p b.abs.heap && gensDone b.abs && laidKept s₀.heap b.abs.heap with
          | false => rw [e5] at h; cases h
          | true => rw [e5] at h; exact h
theorem left_of {p q : Program} {loose : List Str} {Xt : Shared → Bool} {α : Type} {Yf : Shared → α} {Ya : World → α} {N : Nat}
    (h : ∀ w, (endsT (fun q => stepT (denote treeTable) q w) start fenceModules? p N).map (fun s => (openSeen q loose (importedModules p.main.body) Xt true s, Yf s)) = some (openGood q loose, Ya w)) : LeftO p q loose Xt Yf Ya N := fun w => by
  obtain ⟨s, e, k⟩ := Option.map_eq_some_iff.mp (h w)
  rw [ends_of e]
  exact congrArg some k
abbrev FnT := Arguments × List Stmt × Scope
def fnAt : Stmt → List FnT
  | .FunctionDef _ a b _ _ _ s _ _ _ => [(a, b, s)]
  | _ => []
def fnIn : Stmt → List FnT
  | .ClassDef _ _ _ b _ _ _ _ _ _ _ => b.flatMap fnAt
  | s => fnAt s
def fnsOf (b : List Stmt) : List FnT := b.flatMap fnIn
noncomputable def Kmk (a0 : Arguments) (b0 : List Stmt) (s0 : Scope) (a1 : Arguments) (b1 : List Stmt) (s1 : Scope) (a2 : Arguments) (b2 : List Stmt) (s2 : Scope) (a3 : Arguments) (b3 : List Stmt) (s3 : Scope) (a4 : Arguments) (b4 : List Stmt) (s4 : Scope) (a5 : Arguments) (b5 : List Stmt) (s5 : Scope) (a6 : Arguments) (b6 : List Stmt) (s6 : Scope) (a7 : Arguments) (b7 : List Stmt) (s7 : Scope) (a8 : Arguments) (b8 : List Stmt) (s8 : Scope) (a9 : Arguments) (b9 : List Stmt) (s9 : Scope) (a10 : Arguments) (b10 : List Stmt) (s10 : Scope) (a11 : Arguments) (b11 : List Stmt) (s11 : Scope) (a12 : Arguments) (b12 : List Stmt) (s12 : Scope) (a13 : Arguments) (b13 : List Stmt) (s13 : Scope) (a14 : Arguments) (b14 : List Stmt) (s14 : Scope) (a15 : Arguments) (b15 : List Stmt) (s15 : Scope) (a16 : Arguments) (b16 : List Stmt) (s16 : Scope) (a17 : Arguments) (b17 : List Stmt) (s17 : Scope) (a18 : Arguments) (b18 : List Stmt) (s18 : Scope) (a19 : Arguments) (b19 : List Stmt) (s19 : Scope) (a20 : Arguments) (b20 : List Stmt) (s20 : Scope) (a21 : Arguments) (b21 : List Stmt) (s21 : Scope) (a22 : Arguments) (b22 : List Stmt) (s22 : Scope) (a23 : Arguments) (b23 : List Stmt) (s23 : Scope) (a24 : Arguments) (b24 : List Stmt) (s24 : Scope) (a25 : Arguments) (b25 : List Stmt) (s25 : Scope) (a26 : Arguments) (b26 : List Stmt) (s26 : Scope) (a27 : Arguments) (b27 : List Stmt) (s27 : Scope) (a28 : Arguments) (b28 : List Stmt) (s28 : Scope) (a29 : Arguments) (b29 : List Stmt) (s29 : Scope) (a30 : Arguments) (b30 : List Stmt) (s30 : Scope) (a31 : Arguments) (b31 : List Stmt) (s31 : Scope) (a32 : Arguments) (b32 : List Stmt) (s32 : Scope) (a33 : Arguments) (b33 : List Stmt) (s33 : Scope) (a34 : Arguments) (b34 : List Stmt) (s34 : Scope) (a35 : Arguments) (b35 : List Stmt) (s35 : Scope) (a36 : Arguments) (b36 : List Stmt) (s36 : Scope) (a37 : Arguments) (b37 : List Stmt) (s37 : Scope) (a38 : Arguments) (b38 : List Stmt) (s38 : Scope) (a39 : Arguments) (b39 : List Stmt) (s39 : Scope) (a40 : Arguments) (b40 : List Stmt) (s40 : Scope) (a41 : Arguments) (b41 : List Stmt) (s41 : Scope) (P : Params) : Frag := [
  (nat_lit 2, ⟨.none, none, (.dict (List.toArray [⟨PyData.keyHash P (Str.ofString "\x69mport.loaded._operator"), (.str (Str.ofString "\x69mport.loaded._operator") 189), (.bool true)⟩, ⟨PyData.keyHash P (Str.ofString "class._frozen_importlib.BuiltinImporter"), (.str (Str.ofString "class._frozen_importlib.BuiltinImporter") 191), (.ref 15)⟩, ⟨PyData.keyHash P (Str.ofString "watched.\x69mport"), (.str (Str.ofString "watched.\x69mport") 212), (.ref 19)⟩, ⟨PyData.keyHash P (Str.ofString "class._frozen_importlib.ModuleSpec"), (.str (Str.ofString "class._frozen_importlib.ModuleSpec") 222), (.ref 23)⟩, ⟨PyData.keyHash P (Str.ofString "sys.modules.booked-epoch"), (.str (Str.ofString "sys.modules.booked-epoch") 251), (.int 3 0)⟩, ⟨PyData.keyHash P (Str.ofString "sys.modules.landed._operator"), (.str (Str.ofString "sys.modules.landed._operator") 252), (.bool true)⟩, ⟨PyData.keyHash P (Str.ofString "\x69mport.later-laid._operator"), (.str (Str.ofString "\x69mport.later-laid._operator") 316), (.bool true)⟩, ⟨PyData.keyHash P (Str.ofString "watched.library"), (.str (Str.ofString "watched.library") 318), (.ref 28)⟩, ⟨PyData.keyHash P (Str.ofString "watched.library-objects"), (.str (Str.ofString "watched.library-objects") 0), (.str (Str.ofString "\x0d") 0)⟩, ⟨PyData.keyHash P (Str.ofString "watched.library-deep._operator"), (.str (Str.ofString "watched.library-deep._operator") 319), (.str (Str.ofString "\x04\x00\x00\x0c\x04\x00\x00\x0c\x04\x00\x00\x03\x04\x00\x00\x0c\x08\x04dict\x02") 0)⟩]) 10), (List.toArray [])⟩),
  (nat_lit 3, ⟨(.type "dict"), none, (.dict (List.toArray [⟨PyData.keyHash P (Str.ofString "__name__"), (.str (Str.ofString "__name__") 165), (.str (Str.ofString "law_md0019_03") 746)⟩, ⟨PyData.keyHash P (Str.ofString "__doc__"), (.str (Str.ofString "__doc__") 166), .none⟩, ⟨PyData.keyHash P (Str.ofString "__package__"), (.str (Str.ofString "__package__") 167), .none⟩, ⟨PyData.keyHash P (Str.ofString "__loader__"), (.str (Str.ofString "__loader__") 168), (.builtin "__main__.__loader__#opaque")⟩, ⟨PyData.keyHash P (Str.ofString "__spec__"), (.str (Str.ofString "__spec__") 169), .none⟩, ⟨PyData.keyHash P (Str.ofString "__annotations__"), (.str (Str.ofString "__annotations__") 170), (.ref 6)⟩, ⟨PyData.keyHash P (Str.ofString "__builtins__"), (.str (Str.ofString "__builtins__") 171), (.ref 4)⟩, ⟨PyData.keyHash P (Str.ofString "__file__"), (.str (Str.ofString "__file__") 173), (.str (Str.ofString "/claim/cut.py") 172)⟩, ⟨PyData.keyHash P (Str.ofString "__cached__"), (.str (Str.ofString "__cached__") 174), .none⟩, ⟨PyData.keyHash P (Str.ofString "eq"), (.str (Str.ofString "eq") 325), (.builtin "_operator.eq")⟩, ⟨PyData.keyHash P (Str.ofString "ge"), (.str (Str.ofString "ge") 328), (.builtin "_operator.ge")⟩, ⟨PyData.keyHash P (Str.ofString "gt"), (.str (Str.ofString "gt") 331), (.builtin "_operator.gt")⟩, ⟨PyData.keyHash P (Str.ofString "le"), (.str (Str.ofString "le") 334), (.builtin "_operator.le")⟩, ⟨PyData.keyHash P (Str.ofString "lt"), (.str (Str.ofString "lt") 337), (.builtin "_operator.lt")⟩, ⟨PyData.keyHash P (Str.ofString "_wall"), (.str (Str.ofString "_wall") 350), (.ref 39)⟩, ⟨PyData.keyHash P (Str.ofString "_bitcount"), (.str (Str.ofString "_bitcount") 359), (.ref 46)⟩, ⟨PyData.keyHash P (Str.ofString "BRANCH_FACTOR"), (.str (Str.ofString "BRANCH_FACTOR") 361), (.int 32 360)⟩, ⟨PyData.keyHash P (Str.ofString "BIT_MASK"), (.str (Str.ofString "BIT_MASK") 364), (.int 31 363)⟩, ⟨PyData.keyHash P (Str.ofString "SHIFT"), (.str (Str.ofString "SHIFT") 369), (.int 5 368)⟩, ⟨PyData.keyHash P (Str.ofString "compare_pvector"), (.str (Str.ofString "compare_pvector") 378), (.ref 54)⟩, ⟨PyData.keyHash P (Str.ofString "PythonPVector"), (.str (Str.ofString "PythonPVector") 718), (.ref 296)⟩, ⟨PyData.keyHash P (Str.ofString "_EMPTY_PVECTOR"), (.str (Str.ofString "_EMPTY_PVECTOR") 738), (.ref 311)⟩, ⟨PyData.keyHash P (Str.ofString "python_pvector"), (.str (Str.ofString "python_pvector") 745), (.ref 320)⟩, ⟨PyData.keyHash P (Str.ofString "_law_changed"), (.str (Str.ofString "_law_changed") 760), (.ref 327)⟩, ⟨PyData.keyHash P (Str.ofString "_law_order"), (.str (Str.ofString "_law_order") 770), (.ref 334)⟩, ⟨PyData.keyHash P (Str.ofString "_law_signs"), (.str (Str.ofString "_law_signs") 778), (.ref 341)⟩, ⟨PyData.keyHash P (Str.ofString "_law_same"), (.str (Str.ofString "_law_same") 788), (.ref 348)⟩, ⟨PyData.keyHash P (Str.ofString "_law_asked"), (.str (Str.ofString "_law_asked") 797), (.ref 355)⟩, ⟨PyData.keyHash P (Str.ofString "law"), (.str (Str.ofString "law") 803), (.ref 360)⟩]) 29), (List.toArray [])⟩),
  (nat_lit 33, ⟨(.type "tuple"), none, (.seq (List.toArray []) 0), (List.toArray [])⟩),
  (nat_lit 35, ⟨(.type "tuple"), none, (.seq (List.toArray [(.str (Str.ofString "k") 347)]) 0), (List.toArray [])⟩),
  (nat_lit 36, ⟨(.type "tuple"), none, (.seq (List.toArray []) 0), (List.toArray [])⟩),
  (nat_lit 38, ⟨(.type "code"), none, (.fields (List.toArray [(.str (Str.ofString "_wall") 344), (.str (Str.ofString "_wall") 345), (.str (Str.ofString "/claim/cut.py") 346), (.int 2 0), (.int 1 0), (.int 0 0), (.int 0 0), (.int 3 0), (.ref 33), (.bool true), (.int 338 0), (.ref 34), .none, (.ref 35), (.ref 36), (.ref 37), (.int 348 0), (.int 2 0), (.str (Str.ofString "/claim/cut.py") 349)])), (List.toArray [])⟩),
  (nat_lit 39, ⟨(.type "function"), none, (.func ⟨(Str.ofString "_wall"), (Str.ofString "_wall"), a0, .stmts b0, s0, 3, [], .none, .none, .none, (.str (Str.ofString "__main__") 164), none, (.ref 38), .none, 0⟩), (List.toArray [])⟩),
  (nat_lit 48, ⟨(.type "tuple"), none, (.seq (List.toArray []) 0), (List.toArray [])⟩),
  (nat_lit 50, ⟨(.type "tuple"), none, (.seq (List.toArray [(.str (Str.ofString "v") 373), (.str (Str.ofString "other") 374), (.str (Str.ofString "operator") 375)]) 0), (List.toArray [])⟩),
  (nat_lit 51, ⟨(.type "tuple"), none, (.seq (List.toArray []) 0), (List.toArray [])⟩),
  (nat_lit 53, ⟨(.type "code"), none, (.fields (List.toArray [(.str (Str.ofString "compare_pvector") 370), (.str (Str.ofString "compare_pvector") 371), (.str (Str.ofString "/claim/cut.py") 372), (.int 11 0), (.int 3 0), (.int 0 0), (.int 0 0), (.int 3 0), (.ref 48), (.bool true), (.int 338 0), (.ref 49), .none, (.ref 50), (.ref 51), (.ref 52), (.int 376 0), (.int 11 0), (.str (Str.ofString "/claim/cut.py") 377)])), (List.toArray [])⟩),
  (nat_lit 54, ⟨(.type "function"), none, (.func ⟨(Str.ofString "compare_pvector"), (Str.ofString "compare_pvector"), a2, .stmts b2, s2, 3, [], .none, .none, .none, (.str (Str.ofString "pyrsistent._pvector") 351), none, (.ref 53), .none, 0⟩), (List.toArray [])⟩),
  (nat_lit 55, ⟨(.type "tuple"), none, (.seq (List.toArray [(.type "object")]) 0), (List.toArray [])⟩),
  (nat_lit 58, ⟨(.type "cell"), none, (.cell (some (.ref 296))), (List.toArray [])⟩),
  (nat_lit 63, ⟨(.type "tuple"), none, (.seq (List.toArray [(.str (Str.ofString "_count") 391), (.str (Str.ofString "_shift") 392), (.str (Str.ofString "_root") 393), (.str (Str.ofString "_tail") 394), (.str (Str.ofString "_tail_offset") 395), (.str (Str.ofString "__weakref__") 396)]) 0), (List.toArray [])⟩),
  (nat_lit 64, ⟨(.type "tuple"), none, (.seq (List.toArray [(.ref 58)]) 0), (List.toArray [])⟩),
  (nat_lit 65, ⟨(.type "tuple"), none, (.seq (List.toArray [(.str (Str.ofString "__class__") 401)]) 0), (List.toArray [])⟩),
  (nat_lit 67, ⟨(.type "tuple"), none, (.seq (List.toArray [(.str (Str.ofString "cls") 402), (.str (Str.ofString "count") 403), (.str (Str.ofString "shift") 404), (.str (Str.ofString "root") 405), (.str (Str.ofString "tail") 406), (.str (Str.ofString "self") 407)]) 0), (List.toArray [])⟩),
  (nat_lit 68, ⟨(.type "tuple"), none, (.seq (List.toArray []) 0), (List.toArray [])⟩),
  (nat_lit 70, ⟨(.type "code"), none, (.fields (List.toArray [(.str (Str.ofString "__new__") 398), (.str (Str.ofString "PythonPVector.__new__") 399), (.str (Str.ofString "/claim/cut.py") 400), (.int 16 0), (.int 5 0), (.int 0 0), (.int 0 0), (.int 3 0), (.ref 65), (.bool true), (.int 338 0), (.ref 66), .none, (.ref 67), (.ref 68), (.ref 69), (.int 408 0), (.int 16 0), (.str (Str.ofString "/claim/cut.py") 409)])), (List.toArray [])⟩),
  (nat_lit 71, ⟨(.type "function"), none, (.func ⟨(Str.ofString "__new__"), (Str.ofString "PythonPVector.__new__"), a3, .stmts b3, s3, 3, [((Str.ofString "__class__"), 58)], .none, .none, .none, (.str (Str.ofString "pyrsistent._pvector") 351), none, (.ref 70), (.ref 64), 0⟩), (List.toArray [])⟩),
  (nat_lit 72, ⟨(.type "tuple"), none, (.seq (List.toArray []) 0), (List.toArray [])⟩),
  (nat_lit 74, ⟨(.type "tuple"), none, (.seq (List.toArray [(.str (Str.ofString "self") 414)]) 0), (List.toArray [])⟩),
  (nat_lit 75, ⟨(.type "tuple"), none, (.seq (List.toArray []) 0), (List.toArray [])⟩),
  (nat_lit 77, ⟨(.type "code"), none, (.fields (List.toArray [(.str (Str.ofString "__len__") 411), (.str (Str.ofString "PythonPVector.__len__") 412), (.str (Str.ofString "/claim/cut.py") 413), (.int 25 0), (.int 1 0), (.int 0 0), (.int 0 0), (.int 3 0), (.ref 72), (.bool true), (.int 338 0), (.ref 73), .none, (.ref 74), (.ref 75), (.ref 76), (.int 415 0), (.int 25 0), (.str (Str.ofString "/claim/cut.py") 416)])), (List.toArray [])⟩),
  (nat_lit 78, ⟨(.type "function"), none, (.func ⟨(Str.ofString "__len__"), (Str.ofString "PythonPVector.__len__"), a4, .stmts b4, s4, 3, [], .none, .none, .none, (.str (Str.ofString "pyrsistent._pvector") 351), none, (.ref 77), .none, 0⟩), (List.toArray [])⟩),
  (nat_lit 79, ⟨(.type "tuple"), none, (.seq (List.toArray []) 0), (List.toArray [])⟩),
  (nat_lit 81, ⟨(.type "tuple"), none, (.seq (List.toArray [(.str (Str.ofString "self") 421), (.str (Str.ofString "index") 422)]) 0), (List.toArray [])⟩),
  (nat_lit 82, ⟨(.type "tuple"), none, (.seq (List.toArray []) 0), (List.toArray [])⟩),
  (nat_lit 84, ⟨(.type "code"), none, (.fields (List.toArray [(.str (Str.ofString "__getitem__") 418), (.str (Str.ofString "PythonPVector.__getitem__") 419), (.str (Str.ofString "/claim/cut.py") 420), (.int 28 0), (.int 2 0), (.int 0 0), (.int 0 0), (.int 3 0), (.ref 79), (.bool true), (.int 338 0), (.ref 80), .none, (.ref 81), (.ref 82), (.ref 83), (.int 423 0), (.int 28 0), (.str (Str.ofString "/claim/cut.py") 424)])), (List.toArray [])⟩),
  (nat_lit 85, ⟨(.type "function"), none, (.func ⟨(Str.ofString "__getitem__"), (Str.ofString "PythonPVector.__getitem__"), a5, .stmts b5, s5, 3, [], .none, .none, .none, (.str (Str.ofString "pyrsistent._pvector") 351), none, (.ref 84), .none, 0⟩), (List.toArray [])⟩),
  (nat_lit 86, ⟨(.type "tuple"), none, (.seq (List.toArray []) 0), (List.toArray [])⟩),
  (nat_lit 88, ⟨(.type "tuple"), none, (.seq (List.toArray [(.str (Str.ofString "self") 429), (.str (Str.ofString "other") 430)]) 0), (List.toArray [])⟩),
  (nat_lit 89, ⟨(.type "tuple"), none, (.seq (List.toArray []) 0), (List.toArray [])⟩),
  (nat_lit 91, ⟨(.type "code"), none, (.fields (List.toArray [(.str (Str.ofString "__add__") 426), (.str (Str.ofString "PythonPVector.__add__") 427), (.str (Str.ofString "/claim/cut.py") 428), (.int 37 0), (.int 2 0), (.int 0 0), (.int 0 0), (.int 3 0), (.ref 86), (.bool true), (.int 338 0), (.ref 87), .none, (.ref 88), (.ref 89), (.ref 90), (.int 431 0), (.int 37 0), (.str (Str.ofString "/claim/cut.py") 432)])), (List.toArray [])⟩),
  (nat_lit 92, ⟨(.type "function"), none, (.func ⟨(Str.ofString "__add__"), (Str.ofString "PythonPVector.__add__"), a6, .stmts b6, s6, 3, [], .none, .none, .none, (.str (Str.ofString "pyrsistent._pvector") 351), none, (.ref 91), .none, 0⟩), (List.toArray [])⟩),
  (nat_lit 93, ⟨(.type "tuple"), none, (.seq (List.toArray []) 0), (List.toArray [])⟩),
  (nat_lit 95, ⟨(.type "tuple"), none, (.seq (List.toArray [(.str (Str.ofString "self") 437)]) 0), (List.toArray [])⟩),
  (nat_lit 96, ⟨(.type "tuple"), none, (.seq (List.toArray []) 0), (List.toArray [])⟩),
  (nat_lit 98, ⟨(.type "code"), none, (.fields (List.toArray [(.str (Str.ofString "__repr__") 434), (.str (Str.ofString "PythonPVector.__repr__") 435), (.str (Str.ofString "/claim/cut.py") 436), (.int 40 0), (.int 1 0), (.int 0 0), (.int 0 0), (.int 3 0), (.ref 93), (.bool true), (.int 338 0), (.ref 94), .none, (.ref 95), (.ref 96), (.ref 97), (.int 438 0), (.int 40 0), (.str (Str.ofString "/claim/cut.py") 439)])), (List.toArray [])⟩),
  (nat_lit 99, ⟨(.type "function"), none, (.func ⟨(Str.ofString "__repr__"), (Str.ofString "PythonPVector.__repr__"), a7, .stmts b7, s7, 3, [], .none, .none, .none, (.str (Str.ofString "pyrsistent._pvector") 351), none, (.ref 98), .none, 0⟩), (List.toArray [])⟩),
  (nat_lit 100, ⟨(.type "tuple"), none, (.seq (List.toArray []) 0), (List.toArray [])⟩),
  (nat_lit 102, ⟨(.type "tuple"), none, (.seq (List.toArray [(.str (Str.ofString "self") 444)]) 0), (List.toArray [])⟩),
  (nat_lit 103, ⟨(.type "tuple"), none, (.seq (List.toArray []) 0), (List.toArray [])⟩),
  (nat_lit 105, ⟨(.type "code"), none, (.fields (List.toArray [(.str (Str.ofString "__str__") 441), (.str (Str.ofString "PythonPVector.__str__") 442), (.str (Str.ofString "/claim/cut.py") 443), (.int 43 0), (.int 1 0), (.int 0 0), (.int 0 0), (.int 3 0), (.ref 100), (.bool true), (.int 338 0), (.ref 101), .none, (.ref 102), (.ref 103), (.ref 104), (.int 445 0), (.int 43 0), (.str (Str.ofString "/claim/cut.py") 446)])), (List.toArray [])⟩),
  (nat_lit 106, ⟨(.type "function"), none, (.func ⟨(Str.ofString "__str__"), (Str.ofString "PythonPVector.__str__"), a8, .stmts b8, s8, 3, [], .none, .none, .none, (.str (Str.ofString "pyrsistent._pvector") 351), none, (.ref 105), .none, 0⟩), (List.toArray [])⟩),
  (nat_lit 107, ⟨(.type "tuple"), none, (.seq (List.toArray []) 0), (List.toArray [])⟩),
  (nat_lit 109, ⟨(.type "tuple"), none, (.seq (List.toArray [(.str (Str.ofString "self") 451)]) 0), (List.toArray [])⟩),
  (nat_lit 110, ⟨(.type "tuple"), none, (.seq (List.toArray []) 0), (List.toArray [])⟩),
  (nat_lit 112, ⟨(.type "code"), none, (.fields (List.toArray [(.str (Str.ofString "__iter__") 448), (.str (Str.ofString "PythonPVector.__iter__") 449), (.str (Str.ofString "/claim/cut.py") 450), (.int 46 0), (.int 1 0), (.int 0 0), (.int 0 0), (.int 3 0), (.ref 107), (.bool true), (.int 338 0), (.ref 108), .none, (.ref 109), (.ref 110), (.ref 111), (.int 452 0), (.int 46 0), (.str (Str.ofString "/claim/cut.py") 453)])), (List.toArray [])⟩),
  (nat_lit 113, ⟨(.type "function"), none, (.func ⟨(Str.ofString "__iter__"), (Str.ofString "PythonPVector.__iter__"), a9, .stmts b9, s9, 3, [], .none, .none, .none, (.str (Str.ofString "pyrsistent._pvector") 351), none, (.ref 112), .none, 0⟩), (List.toArray [])⟩),
  (nat_lit 114, ⟨(.type "tuple"), none, (.seq (List.toArray []) 0), (List.toArray [])⟩),
  (nat_lit 116, ⟨(.type "tuple"), none, (.seq (List.toArray [(.str (Str.ofString "self") 458), (.str (Str.ofString "other") 459)]) 0), (List.toArray [])⟩),
  (nat_lit 117, ⟨(.type "tuple"), none, (.seq (List.toArray []) 0), (List.toArray [])⟩),
  (nat_lit 119, ⟨(.type "code"), none, (.fields (List.toArray [(.str (Str.ofString "__ne__") 455), (.str (Str.ofString "PythonPVector.__ne__") 456), (.str (Str.ofString "/claim/cut.py") 457), (.int 49 0), (.int 2 0), (.int 0 0), (.int 0 0), (.int 3 0), (.ref 114), (.bool true), (.int 338 0), (.ref 115), .none, (.ref 116), (.ref 117), (.ref 118), (.int 460 0), (.int 49 0), (.str (Str.ofString "/claim/cut.py") 461)])), (List.toArray [])⟩),
  (nat_lit 120, ⟨(.type "function"), none, (.func ⟨(Str.ofString "__ne__"), (Str.ofString "PythonPVector.__ne__"), a10, .stmts b10, s10, 3, [], .none, .none, .none, (.str (Str.ofString "pyrsistent._pvector") 351), none, (.ref 119), .none, 0⟩), (List.toArray [])⟩),
  (nat_lit 121, ⟨(.type "tuple"), none, (.seq (List.toArray []) 0), (List.toArray [])⟩),
  (nat_lit 123, ⟨(.type "tuple"), none, (.seq (List.toArray [(.str (Str.ofString "self") 466), (.str (Str.ofString "other") 467)]) 0), (List.toArray [])⟩),
  (nat_lit 124, ⟨(.type "tuple"), none, (.seq (List.toArray []) 0), (List.toArray [])⟩),
  (nat_lit 126, ⟨(.type "code"), none, (.fields (List.toArray [(.str (Str.ofString "__eq__") 463), (.str (Str.ofString "PythonPVector.__eq__") 464), (.str (Str.ofString "/claim/cut.py") 465), (.int 52 0), (.int 2 0), (.int 0 0), (.int 0 0), (.int 3 0), (.ref 121), (.bool true), (.int 338 0), (.ref 122), .none, (.ref 123), (.ref 124), (.ref 125), (.int 468 0), (.int 52 0), (.str (Str.ofString "/claim/cut.py") 469)])), (List.toArray [])⟩),
  (nat_lit 127, ⟨(.type "function"), none, (.func ⟨(Str.ofString "__eq__"), (Str.ofString "PythonPVector.__eq__"), a11, .stmts b11, s11, 3, [], .none, .none, .none, (.str (Str.ofString "pyrsistent._pvector") 351), none, (.ref 126), .none, 0⟩), (List.toArray [])⟩),
  (nat_lit 128, ⟨(.type "tuple"), none, (.seq (List.toArray []) 0), (List.toArray [])⟩),
  (nat_lit 130, ⟨(.type "tuple"), none, (.seq (List.toArray [(.str (Str.ofString "self") 474), (.str (Str.ofString "other") 475)]) 0), (List.toArray [])⟩),
  (nat_lit 131, ⟨(.type "tuple"), none, (.seq (List.toArray []) 0), (List.toArray [])⟩),
  (nat_lit 133, ⟨(.type "code"), none, (.fields (List.toArray [(.str (Str.ofString "__gt__") 471), (.str (Str.ofString "PythonPVector.__gt__") 472), (.str (Str.ofString "/claim/cut.py") 473), (.int 55 0), (.int 2 0), (.int 0 0), (.int 0 0), (.int 3 0), (.ref 128), (.bool true), (.int 338 0), (.ref 129), .none, (.ref 130), (.ref 131), (.ref 132), (.int 476 0), (.int 55 0), (.str (Str.ofString "/claim/cut.py") 477)])), (List.toArray [])⟩),
  (nat_lit 134, ⟨(.type "function"), none, (.func ⟨(Str.ofString "__gt__"), (Str.ofString "PythonPVector.__gt__"), a12, .stmts b12, s12, 3, [], .none, .none, .none, (.str (Str.ofString "pyrsistent._pvector") 351), none, (.ref 133), .none, 0⟩), (List.toArray [])⟩),
  (nat_lit 135, ⟨(.type "tuple"), none, (.seq (List.toArray []) 0), (List.toArray [])⟩),
  (nat_lit 137, ⟨(.type "tuple"), none, (.seq (List.toArray [(.str (Str.ofString "self") 482), (.str (Str.ofString "other") 483)]) 0), (List.toArray [])⟩),
  (nat_lit 138, ⟨(.type "tuple"), none, (.seq (List.toArray []) 0), (List.toArray [])⟩),
  (nat_lit 140, ⟨(.type "code"), none, (.fields (List.toArray [(.str (Str.ofString "__lt__") 479), (.str (Str.ofString "PythonPVector.__lt__") 480), (.str (Str.ofString "/claim/cut.py") 481), (.int 58 0), (.int 2 0), (.int 0 0), (.int 0 0), (.int 3 0), (.ref 135), (.bool true), (.int 338 0), (.ref 136), .none, (.ref 137), (.ref 138), (.ref 139), (.int 484 0), (.int 58 0), (.str (Str.ofString "/claim/cut.py") 485)])), (List.toArray [])⟩),
  (nat_lit 141, ⟨(.type "function"), none, (.func ⟨(Str.ofString "__lt__"), (Str.ofString "PythonPVector.__lt__"), a13, .stmts b13, s13, 3, [], .none, .none, .none, (.str (Str.ofString "pyrsistent._pvector") 351), none, (.ref 140), .none, 0⟩), (List.toArray [])⟩),
  (nat_lit 142, ⟨(.type "tuple"), none, (.seq (List.toArray []) 0), (List.toArray [])⟩),
  (nat_lit 144, ⟨(.type "tuple"), none, (.seq (List.toArray [(.str (Str.ofString "self") 490), (.str (Str.ofString "other") 491)]) 0), (List.toArray [])⟩),
  (nat_lit 145, ⟨(.type "tuple"), none, (.seq (List.toArray []) 0), (List.toArray [])⟩),
  (nat_lit 147, ⟨(.type "code"), none, (.fields (List.toArray [(.str (Str.ofString "__ge__") 487), (.str (Str.ofString "PythonPVector.__ge__") 488), (.str (Str.ofString "/claim/cut.py") 489), (.int 61 0), (.int 2 0), (.int 0 0), (.int 0 0), (.int 3 0), (.ref 142), (.bool true), (.int 338 0), (.ref 143), .none, (.ref 144), (.ref 145), (.ref 146), (.int 492 0), (.int 61 0), (.str (Str.ofString "/claim/cut.py") 493)])), (List.toArray [])⟩),
  (nat_lit 148, ⟨(.type "function"), none, (.func ⟨(Str.ofString "__ge__"), (Str.ofString "PythonPVector.__ge__"), a14, .stmts b14, s14, 3, [], .none, .none, .none, (.str (Str.ofString "pyrsistent._pvector") 351), none, (.ref 147), .none, 0⟩), (List.toArray [])⟩),
  (nat_lit 149, ⟨(.type "tuple"), none, (.seq (List.toArray []) 0), (List.toArray [])⟩),
  (nat_lit 151, ⟨(.type "tuple"), none, (.seq (List.toArray [(.str (Str.ofString "self") 498), (.str (Str.ofString "other") 499)]) 0), (List.toArray [])⟩),
  (nat_lit 152, ⟨(.type "tuple"), none, (.seq (List.toArray []) 0), (List.toArray [])⟩),
  (nat_lit 154, ⟨(.type "code"), none, (.fields (List.toArray [(.str (Str.ofString "__le__") 495), (.str (Str.ofString "PythonPVector.__le__") 496), (.str (Str.ofString "/claim/cut.py") 497), (.int 64 0), (.int 2 0), (.int 0 0), (.int 0 0), (.int 3 0), (.ref 149), (.bool true), (.int 338 0), (.ref 150), .none, (.ref 151), (.ref 152), (.ref 153), (.int 500 0), (.int 64 0), (.str (Str.ofString "/claim/cut.py") 501)])), (List.toArray [])⟩),
  (nat_lit 155, ⟨(.type "function"), none, (.func ⟨(Str.ofString "__le__"), (Str.ofString "PythonPVector.__le__"), a15, .stmts b15, s15, 3, [], .none, .none, .none, (.str (Str.ofString "pyrsistent._pvector") 351), none, (.ref 154), .none, 0⟩), (List.toArray [])⟩),
  (nat_lit 156, ⟨(.type "tuple"), none, (.seq (List.toArray []) 0), (List.toArray [])⟩),
  (nat_lit 158, ⟨(.type "tuple"), none, (.seq (List.toArray [(.str (Str.ofString "self") 506), (.str (Str.ofString "times") 507)]) 0), (List.toArray [])⟩),
  (nat_lit 159, ⟨(.type "tuple"), none, (.seq (List.toArray []) 0), (List.toArray [])⟩),
  (nat_lit 161, ⟨(.type "code"), none, (.fields (List.toArray [(.str (Str.ofString "__mul__") 503), (.str (Str.ofString "PythonPVector.__mul__") 504), (.str (Str.ofString "/claim/cut.py") 505), (.int 67 0), (.int 2 0), (.int 0 0), (.int 0 0), (.int 3 0), (.ref 156), (.bool true), (.int 338 0), (.ref 157), .none, (.ref 158), (.ref 159), (.ref 160), (.int 508 0), (.int 67 0), (.str (Str.ofString "/claim/cut.py") 509)])), (List.toArray [])⟩),
  (nat_lit 162, ⟨(.type "function"), none, (.func ⟨(Str.ofString "__mul__"), (Str.ofString "PythonPVector.__mul__"), a16, .stmts b16, s16, 3, [], .none, .none, .none, (.str (Str.ofString "pyrsistent._pvector") 351), none, (.ref 161), .none, 0⟩), (List.toArray [])⟩),
  (nat_lit 163, ⟨(.type "tuple"), none, (.seq (List.toArray []) 0), (List.toArray [])⟩),
  (nat_lit 165, ⟨(.type "tuple"), none, (.seq (List.toArray [(.str (Str.ofString "self") 515), (.str (Str.ofString "node") 516), (.str (Str.ofString "shift") 517), (.str (Str.ofString "the_list") 518), (.str (Str.ofString "n") 519)]) 0), (List.toArray [])⟩),
  (nat_lit 166, ⟨(.type "tuple"), none, (.seq (List.toArray []) 0), (List.toArray [])⟩),
  (nat_lit 168, ⟨(.type "code"), none, (.fields (List.toArray [(.str (Str.ofString "_fill_list") 512), (.str (Str.ofString "PythonPVector._fill_list") 513), (.str (Str.ofString "/claim/cut.py") 514), (.int 75 0), (.int 4 0), (.int 0 0), (.int 0 0), (.int 3 0), (.ref 163), (.bool true), (.int 338 0), (.ref 164), .none, (.ref 165), (.ref 166), (.ref 167), (.int 520 0), (.int 75 0), (.str (Str.ofString "/claim/cut.py") 521)])), (List.toArray [])⟩),
  (nat_lit 169, ⟨(.type "function"), none, (.func ⟨(Str.ofString "_fill_list"), (Str.ofString "PythonPVector._fill_list"), a17, .stmts b17, s17, 3, [], .none, .none, .none, (.str (Str.ofString "pyrsistent._pvector") 351), none, (.ref 168), .none, 0⟩), (List.toArray [])⟩),
  (nat_lit 170, ⟨(.type "tuple"), none, (.seq (List.toArray []) 0), (List.toArray [])⟩),
  (nat_lit 172, ⟨(.type "tuple"), none, (.seq (List.toArray [(.str (Str.ofString "self") 526), (.str (Str.ofString "the_list") 527)]) 0), (List.toArray [])⟩),
  (nat_lit 173, ⟨(.type "tuple"), none, (.seq (List.toArray []) 0), (List.toArray [])⟩),
  (nat_lit 175, ⟨(.type "code"), none, (.fields (List.toArray [(.str (Str.ofString "tolist") 523), (.str (Str.ofString "PythonPVector.tolist") 524), (.str (Str.ofString "/claim/cut.py") 525), (.int 83 0), (.int 1 0), (.int 0 0), (.int 0 0), (.int 3 0), (.ref 170), (.bool true), (.int 338 0), (.ref 171), .none, (.ref 172), (.ref 173), (.ref 174), (.int 528 0), (.int 83 0), (.str (Str.ofString "/claim/cut.py") 529)])), (List.toArray [])⟩),
  (nat_lit 176, ⟨(.type "function"), none, (.func ⟨(Str.ofString "tolist"), (Str.ofString "PythonPVector.tolist"), a18, .stmts b18, s18, 3, [], .none, .none, .none, (.str (Str.ofString "pyrsistent._pvector") 351), none, (.ref 175), .none, 0⟩), (List.toArray [])⟩),
  (nat_lit 177, ⟨(.type "tuple"), none, (.seq (List.toArray []) 0), (List.toArray [])⟩),
  (nat_lit 179, ⟨(.type "tuple"), none, (.seq (List.toArray [(.str (Str.ofString "self") 534)]) 0), (List.toArray [])⟩),
  (nat_lit 180, ⟨(.type "tuple"), none, (.seq (List.toArray []) 0), (List.toArray [])⟩),
  (nat_lit 182, ⟨(.type "code"), none, (.fields (List.toArray [(.str (Str.ofString "_totuple") 531), (.str (Str.ofString "PythonPVector._totuple") 532), (.str (Str.ofString "/claim/cut.py") 533), (.int 89 0), (.int 1 0), (.int 0 0), (.int 0 0), (.int 3 0), (.ref 177), (.bool true), (.int 338 0), (.ref 178), .none, (.ref 179), (.ref 180), (.ref 181), (.int 535 0), (.int 89 0), (.str (Str.ofString "/claim/cut.py") 536)])), (List.toArray [])⟩),
  (nat_lit 183, ⟨(.type "function"), none, (.func ⟨(Str.ofString "_totuple"), (Str.ofString "PythonPVector._totuple"), a19, .stmts b19, s19, 3, [], .none, .none, .none, (.str (Str.ofString "pyrsistent._pvector") 351), none, (.ref 182), .none, 0⟩), (List.toArray [])⟩),
  (nat_lit 184, ⟨(.type "tuple"), none, (.seq (List.toArray []) 0), (List.toArray [])⟩),
  (nat_lit 186, ⟨(.type "tuple"), none, (.seq (List.toArray [(.str (Str.ofString "self") 541), (.str (Str.ofString "i") 542), (.str (Str.ofString "val") 543)]) 0), (List.toArray [])⟩),
  (nat_lit 187, ⟨(.type "tuple"), none, (.seq (List.toArray []) 0), (List.toArray [])⟩),
  (nat_lit 189, ⟨(.type "code"), none, (.fields (List.toArray [(.str (Str.ofString "set") 538), (.str (Str.ofString "PythonPVector.set") 539), (.str (Str.ofString "/claim/cut.py") 540), (.int 92 0), (.int 3 0), (.int 0 0), (.int 0 0), (.int 3 0), (.ref 184), (.bool true), (.int 338 0), (.ref 185), .none, (.ref 186), (.ref 187), (.ref 188), (.int 544 0), (.int 92 0), (.str (Str.ofString "/claim/cut.py") 545)])), (List.toArray [])⟩),
  (nat_lit 190, ⟨(.type "function"), none, (.func ⟨(Str.ofString "set"), (Str.ofString "PythonPVector.set"), a20, .stmts b20, s20, 3, [], .none, .none, .none, (.str (Str.ofString "pyrsistent._pvector") 351), none, (.ref 189), .none, 0⟩), (List.toArray [])⟩),
  (nat_lit 191, ⟨(.type "tuple"), none, (.seq (List.toArray []) 0), (List.toArray [])⟩),
  (nat_lit 193, ⟨(.type "tuple"), none, (.seq (List.toArray [(.str (Str.ofString "self") 550), (.str (Str.ofString "level") 551), (.str (Str.ofString "node") 552), (.str (Str.ofString "i") 553), (.str (Str.ofString "val") 554)]) 0), (List.toArray [])⟩),
  (nat_lit 194, ⟨(.type "tuple"), none, (.seq (List.toArray []) 0), (List.toArray [])⟩),
  (nat_lit 196, ⟨(.type "code"), none, (.fields (List.toArray [(.str (Str.ofString "_do_set") 547), (.str (Str.ofString "PythonPVector._do_set") 548), (.str (Str.ofString "/claim/cut.py") 549), (.int 95 0), (.int 5 0), (.int 0 0), (.int 0 0), (.int 3 0), (.ref 191), (.bool true), (.int 338 0), (.ref 192), .none, (.ref 193), (.ref 194), (.ref 195), (.int 555 0), (.int 95 0), (.str (Str.ofString "/claim/cut.py") 556)])), (List.toArray [])⟩),
  (nat_lit 197, ⟨(.type "function"), none, (.func ⟨(Str.ofString "_do_set"), (Str.ofString "PythonPVector._do_set"), a21, .stmts b21, s21, 3, [], .none, .none, .none, (.str (Str.ofString "pyrsistent._pvector") 351), none, (.ref 196), .none, 0⟩), (List.toArray [])⟩),
  (nat_lit 198, ⟨(.type "tuple"), none, (.seq (List.toArray []) 0), (List.toArray [])⟩),
  (nat_lit 200, ⟨(.type "tuple"), none, (.seq (List.toArray [(.str (Str.ofString "pvector_like") 561), (.str (Str.ofString "i") 562), (.str (Str.ofString "node") 563), (.str (Str.ofString "level") 564)]) 0), (List.toArray [])⟩),
  (nat_lit 201, ⟨(.type "tuple"), none, (.seq (List.toArray []) 0), (List.toArray [])⟩),
  (nat_lit 203, ⟨(.type "code"), none, (.fields (List.toArray [(.str (Str.ofString "_node_for") 558), (.str (Str.ofString "PythonPVector._node_for") 559), (.str (Str.ofString "/claim/cut.py") 560), (.int 98 0), (.int 2 0), (.int 0 0), (.int 0 0), (.int 3 0), (.ref 198), (.bool true), (.int 338 0), (.ref 199), .none, (.ref 200), (.ref 201), (.ref 202), (.int 565 0), (.int 98 0), (.str (Str.ofString "/claim/cut.py") 566)])), (List.toArray [])⟩),
  (nat_lit 204, ⟨(.type "function"), none, (.func ⟨(Str.ofString "_node_for"), (Str.ofString "PythonPVector._node_for"), a22, .stmts b22, s22, 3, [], .none, .none, .none, (.str (Str.ofString "pyrsistent._pvector") 351), (some 207), (.ref 203), .none, 0⟩), (List.toArray [])⟩),
  (nat_lit 205, ⟨(.type "dict"), none, (.dict (List.toArray [⟨PyData.keyHash P (Str.ofString "__module__"), (.str (Str.ofString "__module__") 568), (.str (Str.ofString "pyrsistent._pvector") 351)⟩, ⟨PyData.keyHash P (Str.ofString "__name__"), (.str (Str.ofString "__name__") 571), (.str (Str.ofString "_node_for") 570)⟩, ⟨PyData.keyHash P (Str.ofString "__qualname__"), (.str (Str.ofString "__qualname__") 574), (.str (Str.ofString "PythonPVector._node_for") 573)⟩, ⟨PyData.keyHash P (Str.ofString "__doc__"), (.str (Str.ofString "__doc__") 576), .none⟩, ⟨PyData.keyHash P (Str.ofString "__annotations__"), (.str (Str.ofString "__annotations__") 578), (.ref 207)⟩]) 5), (List.toArray [])⟩),
  (nat_lit 206, ⟨(.type "staticmethod"), (some 205), (.fields (List.toArray [(.ref 204), (.bool false)])), (List.toArray [])⟩),
  (nat_lit 207, ⟨(.type "dict"), none, (.dict (List.toArray []) 0), (List.toArray [])⟩),
  (nat_lit 208, ⟨(.type "tuple"), none, (.seq (List.toArray []) 0), (List.toArray [])⟩),
  (nat_lit 210, ⟨(.type "tuple"), none, (.seq (List.toArray [(.str (Str.ofString "self") 583), (.str (Str.ofString "new_shift") 584), (.str (Str.ofString "new_root") 585)]) 0), (List.toArray [])⟩),
  (nat_lit 211, ⟨(.type "tuple"), none, (.seq (List.toArray []) 0), (List.toArray [])⟩),
  (nat_lit 213, ⟨(.type "code"), none, (.fields (List.toArray [(.str (Str.ofString "_create_new_root") 580), (.str (Str.ofString "PythonPVector._create_new_root") 581), (.str (Str.ofString "/claim/cut.py") 582), (.int 109 0), (.int 1 0), (.int 0 0), (.int 0 0), (.int 3 0), (.ref 208), (.bool true), (.int 338 0), (.ref 209), .none, (.ref 210), (.ref 211), (.ref 212), (.int 586 0), (.int 109 0), (.str (Str.ofString "/claim/cut.py") 587)])), (List.toArray [])⟩),
  (nat_lit 214, ⟨(.type "function"), none, (.func ⟨(Str.ofString "_create_new_root"), (Str.ofString "PythonPVector._create_new_root"), a23, .stmts b23, s23, 3, [], .none, .none, .none, (.str (Str.ofString "pyrsistent._pvector") 351), none, (.ref 213), .none, 0⟩), (List.toArray [])⟩),
  (nat_lit 215, ⟨(.type "tuple"), none, (.seq (List.toArray []) 0), (List.toArray [])⟩),
  (nat_lit 217, ⟨(.type "tuple"), none, (.seq (List.toArray [(.str (Str.ofString "self") 592), (.str (Str.ofString "val") 593), (.str (Str.ofString "new_tail") 594), (.str (Str.ofString "new_root") 595), (.str (Str.ofString "new_shift") 596)]) 0), (List.toArray [])⟩),
  (nat_lit 218, ⟨(.type "tuple"), none, (.seq (List.toArray []) 0), (List.toArray [])⟩),
  (nat_lit 220, ⟨(.type "code"), none, (.fields (List.toArray [(.str (Str.ofString "append") 589), (.str (Str.ofString "PythonPVector.append") 590), (.str (Str.ofString "/claim/cut.py") 591), (.int 118 0), (.int 2 0), (.int 0 0), (.int 0 0), (.int 3 0), (.ref 215), (.bool true), (.int 338 0), (.ref 216), .none, (.ref 217), (.ref 218), (.ref 219), (.int 597 0), (.int 118 0), (.str (Str.ofString "/claim/cut.py") 598)])), (List.toArray [])⟩),
  (nat_lit 221, ⟨(.type "function"), none, (.func ⟨(Str.ofString "append"), (Str.ofString "PythonPVector.append"), a24, .stmts b24, s24, 3, [], .none, .none, .none, (.str (Str.ofString "pyrsistent._pvector") 351), none, (.ref 220), .none, 0⟩), (List.toArray [])⟩),
  (nat_lit 222, ⟨(.type "tuple"), none, (.seq (List.toArray []) 0), (List.toArray [])⟩),
  (nat_lit 224, ⟨(.type "tuple"), none, (.seq (List.toArray [(.str (Str.ofString "self") 603), (.str (Str.ofString "level") 604), (.str (Str.ofString "node") 605)]) 0), (List.toArray [])⟩),
  (nat_lit 225, ⟨(.type "tuple"), none, (.seq (List.toArray []) 0), (List.toArray [])⟩),
  (nat_lit 227, ⟨(.type "code"), none, (.fields (List.toArray [(.str (Str.ofString "_new_path") 600), (.str (Str.ofString "PythonPVector._new_path") 601), (.str (Str.ofString "/claim/cut.py") 602), (.int 126 0), (.int 3 0), (.int 0 0), (.int 0 0), (.int 3 0), (.ref 222), (.bool true), (.int 338 0), (.ref 223), .none, (.ref 224), (.ref 225), (.ref 226), (.int 606 0), (.int 126 0), (.str (Str.ofString "/claim/cut.py") 607)])), (List.toArray [])⟩),
  (nat_lit 228, ⟨(.type "function"), none, (.func ⟨(Str.ofString "_new_path"), (Str.ofString "PythonPVector._new_path"), a25, .stmts b25, s25, 3, [], .none, .none, .none, (.str (Str.ofString "pyrsistent._pvector") 351), none, (.ref 227), .none, 0⟩), (List.toArray [])⟩),
  (nat_lit 229, ⟨(.type "tuple"), none, (.seq (List.toArray []) 0), (List.toArray [])⟩),
  (nat_lit 231, ⟨(.type "tuple"), none, (.seq (List.toArray [(.str (Str.ofString "self") 612)]) 0), (List.toArray [])⟩),
  (nat_lit 232, ⟨(.type "tuple"), none, (.seq (List.toArray []) 0), (List.toArray [])⟩),
  (nat_lit 234, ⟨(.type "code"), none, (.fields (List.toArray [(.str (Str.ofString "_mutating_insert_tail") 609), (.str (Str.ofString "PythonPVector._mutating_insert_tail") 610), (.str (Str.ofString "/claim/cut.py") 611), (.int 131 0), (.int 1 0), (.int 0 0), (.int 0 0), (.int 3 0), (.ref 229), (.bool true), (.int 338 0), (.ref 230), .none, (.ref 231), (.ref 232), (.ref 233), (.int 613 0), (.int 131 0), (.str (Str.ofString "/claim/cut.py") 614)])), (List.toArray [])⟩),
  (nat_lit 235, ⟨(.type "function"), none, (.func ⟨(Str.ofString "_mutating_insert_tail"), (Str.ofString "PythonPVector._mutating_insert_tail"), a26, .stmts b26, s26, 3, [], .none, .none, .none, (.str (Str.ofString "pyrsistent._pvector") 351), none, (.ref 234), .none, 0⟩), (List.toArray [])⟩),
  (nat_lit 236, ⟨(.type "tuple"), none, (.seq (List.toArray []) 0), (List.toArray [])⟩),
  (nat_lit 238, ⟨(.type "tuple"), none, (.seq (List.toArray [(.str (Str.ofString "self") 619), (.str (Str.ofString "offset") 620), (.str (Str.ofString "sequence") 621), (.str (Str.ofString "max_delta_len") 622), (.str (Str.ofString "delta") 623), (.str (Str.ofString "delta_len") 624)]) 0), (List.toArray [])⟩),
  (nat_lit 239, ⟨(.type "tuple"), none, (.seq (List.toArray []) 0), (List.toArray [])⟩),
  (nat_lit 241, ⟨(.type "code"), none, (.fields (List.toArray [(.str (Str.ofString "_mutating_fill_tail") 616), (.str (Str.ofString "PythonPVector._mutating_fill_tail") 617), (.str (Str.ofString "/claim/cut.py") 618), (.int 135 0), (.int 3 0), (.int 0 0), (.int 0 0), (.int 3 0), (.ref 236), (.bool true), (.int 338 0), (.ref 237), .none, (.ref 238), (.ref 239), (.ref 240), (.int 625 0), (.int 135 0), (.str (Str.ofString "/claim/cut.py") 626)])), (List.toArray [])⟩),
  (nat_lit 242, ⟨(.type "function"), none, (.func ⟨(Str.ofString "_mutating_fill_tail"), (Str.ofString "PythonPVector._mutating_fill_tail"), a27, .stmts b27, s27, 3, [], .none, .none, .none, (.str (Str.ofString "pyrsistent._pvector") 351), none, (.ref 241), .none, 0⟩), (List.toArray [])⟩),
  (nat_lit 243, ⟨(.type "tuple"), none, (.seq (List.toArray []) 0), (List.toArray [])⟩),
  (nat_lit 245, ⟨(.type "tuple"), none, (.seq (List.toArray [(.str (Str.ofString "self") 631), (.str (Str.ofString "sequence") 632), (.str (Str.ofString "offset") 633), (.str (Str.ofString "sequence_len") 634)]) 0), (List.toArray [])⟩),
  (nat_lit 246, ⟨(.type "tuple"), none, (.seq (List.toArray []) 0), (List.toArray [])⟩),
  (nat_lit 248, ⟨(.type "code"), none, (.fields (List.toArray [(.str (Str.ofString "_mutating_extend") 628), (.str (Str.ofString "PythonPVector._mutating_extend") 629), (.str (Str.ofString "/claim/cut.py") 630), (.int 143 0), (.int 2 0), (.int 0 0), (.int 0 0), (.int 3 0), (.ref 243), (.bool true), (.int 338 0), (.ref 244), .none, (.ref 245), (.ref 246), (.ref 247), (.int 635 0), (.int 143 0), (.str (Str.ofString "/claim/cut.py") 636)])), (List.toArray [])⟩),
  (nat_lit 249, ⟨(.type "function"), none, (.func ⟨(Str.ofString "_mutating_extend"), (Str.ofString "PythonPVector._mutating_extend"), a28, .stmts b28, s28, 3, [], .none, .none, .none, (.str (Str.ofString "pyrsistent._pvector") 351), none, (.ref 248), .none, 0⟩), (List.toArray [])⟩),
  (nat_lit 250, ⟨(.type "tuple"), none, (.seq (List.toArray []) 0), (List.toArray [])⟩),
  (nat_lit 252, ⟨(.type "tuple"), none, (.seq (List.toArray [(.str (Str.ofString "self") 641), (.str (Str.ofString "obj") 642), (.str (Str.ofString "l") 643), (.str (Str.ofString "new_vector") 644)]) 0), (List.toArray [])⟩),
  (nat_lit 253, ⟨(.type "tuple"), none, (.seq (List.toArray []) 0), (List.toArray [])⟩),
  (nat_lit 255, ⟨(.type "code"), none, (.fields (List.toArray [(.str (Str.ofString "extend") 638), (.str (Str.ofString "PythonPVector.extend") 639), (.str (Str.ofString "/claim/cut.py") 640), (.int 152 0), (.int 2 0), (.int 0 0), (.int 0 0), (.int 3 0), (.ref 250), (.bool true), (.int 338 0), (.ref 251), .none, (.ref 252), (.ref 253), (.ref 254), (.int 645 0), (.int 152 0), (.str (Str.ofString "/claim/cut.py") 646)])), (List.toArray [])⟩),
  (nat_lit 256, ⟨(.type "function"), none, (.func ⟨(Str.ofString "extend"), (Str.ofString "PythonPVector.extend"), a29, .stmts b29, s29, 3, [], .none, .none, .none, (.str (Str.ofString "pyrsistent._pvector") 351), none, (.ref 255), .none, 0⟩), (List.toArray [])⟩),
  (nat_lit 257, ⟨(.type "tuple"), none, (.seq (List.toArray []) 0), (List.toArray [])⟩),
  (nat_lit 259, ⟨(.type "tuple"), none, (.seq (List.toArray [(.str (Str.ofString "self") 651), (.str (Str.ofString "level") 652), (.str (Str.ofString "parent") 653), (.str (Str.ofString "tail_node") 654), (.str (Str.ofString "ret") 655), (.str (Str.ofString "sub_index") 656)]) 0), (List.toArray [])⟩),
  (nat_lit 260, ⟨(.type "tuple"), none, (.seq (List.toArray []) 0), (List.toArray [])⟩),
  (nat_lit 262, ⟨(.type "code"), none, (.fields (List.toArray [(.str (Str.ofString "_push_tail") 648), (.str (Str.ofString "PythonPVector._push_tail") 649), (.str (Str.ofString "/claim/cut.py") 650), (.int 160 0), (.int 4 0), (.int 0 0), (.int 0 0), (.int 3 0), (.ref 257), (.bool true), (.int 338 0), (.ref 258), .none, (.ref 259), (.ref 260), (.ref 261), (.int 657 0), (.int 160 0), (.str (Str.ofString "/claim/cut.py") 658)])), (List.toArray [])⟩),
  (nat_lit 263, ⟨(.type "function"), none, (.func ⟨(Str.ofString "_push_tail"), (Str.ofString "PythonPVector._push_tail"), a30, .stmts b30, s30, 3, [], .none, .none, .none, (.str (Str.ofString "pyrsistent._pvector") 351), none, (.ref 262), .none, 0⟩), (List.toArray [])⟩),
  (nat_lit 264, ⟨(.type "tuple"), none, (.seq (List.toArray []) 0), (List.toArray [])⟩),
  (nat_lit 266, ⟨(.type "tuple"), none, (.seq (List.toArray [(.str (Str.ofString "self") 663), (.str (Str.ofString "value") 664), (.str (Str.ofString "args") 665), (.str (Str.ofString "kwargs") 666)]) 0), (List.toArray [])⟩),
  (nat_lit 267, ⟨(.type "tuple"), none, (.seq (List.toArray []) 0), (List.toArray [])⟩),
  (nat_lit 269, ⟨(.type "code"), none, (.fields (List.toArray [(.str (Str.ofString "index") 660), (.str (Str.ofString "PythonPVector.index") 661), (.str (Str.ofString "/claim/cut.py") 662), (.int 172 0), (.int 2 0), (.int 0 0), (.int 0 0), (.int 15 0), (.ref 264), (.bool true), (.int 338 0), (.ref 265), .none, (.ref 266), (.ref 267), (.ref 268), (.int 667 0), (.int 172 0), (.str (Str.ofString "/claim/cut.py") 668)])), (List.toArray [])⟩),
  (nat_lit 270, ⟨(.type "function"), none, (.func ⟨(Str.ofString "index"), (Str.ofString "PythonPVector.index"), a31, .stmts b31, s31, 3, [], .none, .none, .none, (.str (Str.ofString "pyrsistent._pvector") 351), none, (.ref 269), .none, 0⟩), (List.toArray [])⟩),
  (nat_lit 271, ⟨(.type "tuple"), none, (.seq (List.toArray []) 0), (List.toArray [])⟩),
  (nat_lit 273, ⟨(.type "tuple"), none, (.seq (List.toArray [(.str (Str.ofString "self") 673), (.str (Str.ofString "value") 674)]) 0), (List.toArray [])⟩),
  (nat_lit 274, ⟨(.type "tuple"), none, (.seq (List.toArray []) 0), (List.toArray [])⟩),
  (nat_lit 276, ⟨(.type "code"), none, (.fields (List.toArray [(.str (Str.ofString "count") 670), (.str (Str.ofString "PythonPVector.count") 671), (.str (Str.ofString "/claim/cut.py") 672), (.int 175 0), (.int 2 0), (.int 0 0), (.int 0 0), (.int 3 0), (.ref 271), (.bool true), (.int 338 0), (.ref 272), .none, (.ref 273), (.ref 274), (.ref 275), (.int 675 0), (.int 175 0), (.str (Str.ofString "/claim/cut.py") 676)])), (List.toArray [])⟩),
  (nat_lit 277, ⟨(.type "function"), none, (.func ⟨(Str.ofString "count"), (Str.ofString "PythonPVector.count"), a32, .stmts b32, s32, 3, [], .none, .none, .none, (.str (Str.ofString "pyrsistent._pvector") 351), none, (.ref 276), .none, 0⟩), (List.toArray [])⟩),
  (nat_lit 278, ⟨(.type "tuple"), none, (.seq (List.toArray [.none]) 0), (List.toArray [])⟩),
  (nat_lit 279, ⟨(.type "tuple"), none, (.seq (List.toArray []) 0), (List.toArray [])⟩),
  (nat_lit 281, ⟨(.type "tuple"), none, (.seq (List.toArray [(.str (Str.ofString "self") 681), (.str (Str.ofString "index") 682), (.str (Str.ofString "stop") 683)]) 0), (List.toArray [])⟩),
  (nat_lit 282, ⟨(.type "tuple"), none, (.seq (List.toArray []) 0), (List.toArray [])⟩),
  (nat_lit 284, ⟨(.type "code"), none, (.fields (List.toArray [(.str (Str.ofString "delete") 678), (.str (Str.ofString "PythonPVector.delete") 679), (.str (Str.ofString "/claim/cut.py") 680), (.int 178 0), (.int 3 0), (.int 0 0), (.int 0 0), (.int 3 0), (.ref 279), (.bool true), (.int 338 0), (.ref 280), .none, (.ref 281), (.ref 282), (.ref 283), (.int 684 0), (.int 178 0), (.str (Str.ofString "/claim/cut.py") 685)])), (List.toArray [])⟩),
  (nat_lit 285, ⟨(.type "function"), none, (.func ⟨(Str.ofString "delete"), (Str.ofString "PythonPVector.delete"), a33, .stmts b33, s33, 3, [], (.ref 278), .none, .none, (.str (Str.ofString "pyrsistent._pvector") 351), none, (.ref 284), .none, 0⟩), (List.toArray [])⟩),
  (nat_lit 286, ⟨(.type "tuple"), none, (.seq (List.toArray []) 0), (List.toArray [])⟩),
  (nat_lit 288, ⟨(.type "tuple"), none, (.seq (List.toArray [(.str (Str.ofString "self") 690), (.str (Str.ofString "value") 691)]) 0), (List.toArray [])⟩),
  (nat_lit 289, ⟨(.type "tuple"), none, (.seq (List.toArray []) 0), (List.toArray [])⟩),
  (nat_lit 291, ⟨(.type "code"), none, (.fields (List.toArray [(.str (Str.ofString "remove") 687), (.str (Str.ofString "PythonPVector.remove") 688), (.str (Str.ofString "/claim/cut.py") 689), (.int 181 0), (.int 2 0), (.int 0 0), (.int 0 0), (.int 3 0), (.ref 286), (.bool true), (.int 338 0), (.ref 287), .none, (.ref 288), (.ref 289), (.ref 290), (.int 692 0), (.int 181 0), (.str (Str.ofString "/claim/cut.py") 693)])), (List.toArray [])⟩),
  (nat_lit 292, ⟨(.type "function"), none, (.func ⟨(Str.ofString "remove"), (Str.ofString "PythonPVector.remove"), a34, .stmts b34, s34, 3, [], .none, .none, .none, (.str (Str.ofString "pyrsistent._pvector") 351), none, (.ref 291), .none, 0⟩), (List.toArray [])⟩),
  (nat_lit 293, ⟨(.type "tuple"), none, (.seq (List.toArray [(.str (Str.ofString "_count") 695), (.str (Str.ofString "_root") 696), (.str (Str.ofString "_shift") 697), (.str (Str.ofString "_tail") 698), (.str (Str.ofString "_tail_offset") 699)]) 0), (List.toArray [])⟩),
  (nat_lit 295, ⟨(.type "dict"), none, (.dict (List.toArray [⟨PyData.keyHash P (Str.ofString "__module__"), (.str (Str.ofString "__module__") 386), (.str (Str.ofString "pyrsistent._pvector") 351)⟩, ⟨PyData.keyHash P (Str.ofString "__firstlineno__"), (.str (Str.ofString "__firstlineno__") 390), (.int 13 389)⟩, ⟨PyData.keyHash P (Str.ofString "__slots__"), (.str (Str.ofString "__slots__") 397), (.ref 63)⟩, ⟨PyData.keyHash P (Str.ofString "__new__"), (.str (Str.ofString "__new__") 410), (.ref 297)⟩, ⟨PyData.keyHash P (Str.ofString "__len__"), (.str (Str.ofString "__len__") 417), (.ref 78)⟩, ⟨PyData.keyHash P (Str.ofString "__getitem__"), (.str (Str.ofString "__getitem__") 425), (.ref 85)⟩, ⟨PyData.keyHash P (Str.ofString "__add__"), (.str (Str.ofString "__add__") 433), (.ref 92)⟩, ⟨PyData.keyHash P (Str.ofString "__repr__"), (.str (Str.ofString "__repr__") 440), (.ref 99)⟩, ⟨PyData.keyHash P (Str.ofString "__str__"), (.str (Str.ofString "__str__") 447), (.ref 106)⟩, ⟨PyData.keyHash P (Str.ofString "__iter__"), (.str (Str.ofString "__iter__") 454), (.ref 113)⟩, ⟨PyData.keyHash P (Str.ofString "__ne__"), (.str (Str.ofString "__ne__") 462), (.ref 120)⟩, ⟨PyData.keyHash P (Str.ofString "__eq__"), (.str (Str.ofString "__eq__") 470), (.ref 127)⟩, ⟨PyData.keyHash P (Str.ofString "__gt__"), (.str (Str.ofString "__gt__") 478), (.ref 134)⟩, ⟨PyData.keyHash P (Str.ofString "__lt__"), (.str (Str.ofString "__lt__") 486), (.ref 141)⟩, ⟨PyData.keyHash P (Str.ofString "__ge__"), (.str (Str.ofString "__ge__") 494), (.ref 148)⟩, ⟨PyData.keyHash P (Str.ofString "__le__"), (.str (Str.ofString "__le__") 502), (.ref 155)⟩, ⟨PyData.keyHash P (Str.ofString "__mul__"), (.str (Str.ofString "__mul__") 510), (.ref 162)⟩, ⟨PyData.keyHash P (Str.ofString "__rmul__"), (.str (Str.ofString "__rmul__") 511), (.ref 162)⟩, ⟨PyData.keyHash P (Str.ofString "_fill_list"), (.str (Str.ofString "_fill_list") 522), (.ref 169)⟩, ⟨PyData.keyHash P (Str.ofString "tolist"), (.str (Str.ofString "tolist") 530), (.ref 176)⟩, ⟨PyData.keyHash P (Str.ofString "_totuple"), (.str (Str.ofString "_totuple") 537), (.ref 183)⟩, ⟨PyData.keyHash P (Str.ofString "set"), (.str (Str.ofString "set") 546), (.ref 190)⟩, ⟨PyData.keyHash P (Str.ofString "_do_set"), (.str (Str.ofString "_do_set") 557), (.ref 197)⟩, ⟨PyData.keyHash P (Str.ofString "_node_for"), (.str (Str.ofString "_node_for") 579), (.ref 206)⟩, ⟨PyData.keyHash P (Str.ofString "_create_new_root"), (.str (Str.ofString "_create_new_root") 588), (.ref 214)⟩, ⟨PyData.keyHash P (Str.ofString "append"), (.str (Str.ofString "append") 599), (.ref 221)⟩, ⟨PyData.keyHash P (Str.ofString "_new_path"), (.str (Str.ofString "_new_path") 608), (.ref 228)⟩, ⟨PyData.keyHash P (Str.ofString "_mutating_insert_tail"), (.str (Str.ofString "_mutating_insert_tail") 615), (.ref 235)⟩, ⟨PyData.keyHash P (Str.ofString "_mutating_fill_tail"), (.str (Str.ofString "_mutating_fill_tail") 627), (.ref 242)⟩, ⟨PyData.keyHash P (Str.ofString "_mutating_extend"), (.str (Str.ofString "_mutating_extend") 637), (.ref 249)⟩, ⟨PyData.keyHash P (Str.ofString "extend"), (.str (Str.ofString "extend") 647), (.ref 256)⟩, ⟨PyData.keyHash P (Str.ofString "_push_tail"), (.str (Str.ofString "_push_tail") 659), (.ref 263)⟩, ⟨PyData.keyHash P (Str.ofString "index"), (.str (Str.ofString "index") 669), (.ref 270)⟩, ⟨PyData.keyHash P (Str.ofString "count"), (.str (Str.ofString "count") 677), (.ref 277)⟩, ⟨PyData.keyHash P (Str.ofString "delete"), (.str (Str.ofString "delete") 686), (.ref 285)⟩, ⟨PyData.keyHash P (Str.ofString "remove"), (.str (Str.ofString "remove") 694), (.ref 292)⟩, ⟨PyData.keyHash P (Str.ofString "__static_attributes__"), (.str (Str.ofString "__static_attributes__") 700), (.ref 293)⟩, ⟨PyData.keyHash P (Str.ofString "_count"), (.str (Str.ofString "_count") 704), (.ref 298)⟩, ⟨PyData.keyHash P (Str.ofString "_root"), (.str (Str.ofString "_root") 706), (.ref 299)⟩, ⟨PyData.keyHash P (Str.ofString "_shift"), (.str (Str.ofString "_shift") 708), (.ref 300)⟩, ⟨PyData.keyHash P (Str.ofString "_tail"), (.str (Str.ofString "_tail") 710), (.ref 301)⟩, ⟨PyData.keyHash P (Str.ofString "_tail_offset"), (.str (Str.ofString "_tail_offset") 712), (.ref 302)⟩, ⟨PyData.keyHash P (Str.ofString "__weakref__"), (.str (Str.ofString "__weakref__") 714), (.ref 303)⟩, ⟨PyData.keyHash P (Str.ofString "__doc__"), (.str (Str.ofString "__doc__") 715), .none⟩, ⟨PyData.keyHash P (Str.ofString "__hash__"), (.str (Str.ofString "__hash__") 716), .none⟩]) 10), (List.toArray [])⟩),
  (nat_lit 296, ⟨(.type "type"), none, (.cls ⟨(Str.ofString "PythonPVector"), [(.type "object")], [(.ref 296), (.type "object")], 295, (Str.ofString "PythonPVector"), false, [(Str.ofString "_count"), (Str.ofString "_root"), (Str.ofString "_shift"), (Str.ofString "_tail"), (Str.ofString "_tail_offset")], [], false, none, false⟩), (List.toArray [(some (.ref 55)), none, (some (.str (Str.ofString "PythonPVector") 379)), (some (.str (Str.ofString "PythonPVector") 387)), (some .none), (some (.bool true))])⟩),
  (nat_lit 297, ⟨(.type "staticmethod"), none, (.fields (List.toArray [(.ref 71)])), (List.toArray [])⟩),
  (nat_lit 298, ⟨(.type "member_descriptor"), none, (.fields (List.toArray [(.str (Str.ofString "_count") 703), (.ref 296), (.builtin "proto.slot"), (.builtin "proto.slot#set"), (.int 4 0)])), (List.toArray [])⟩),
  (nat_lit 299, ⟨(.type "member_descriptor"), none, (.fields (List.toArray [(.str (Str.ofString "_root") 705), (.ref 296), (.builtin "proto.slot"), (.builtin "proto.slot#set"), (.int 3 0)])), (List.toArray [])⟩),
  (nat_lit 300, ⟨(.type "member_descriptor"), none, (.fields (List.toArray [(.str (Str.ofString "_shift") 707), (.ref 296), (.builtin "proto.slot"), (.builtin "proto.slot#set"), (.int 2 0)])), (List.toArray [])⟩),
  (nat_lit 301, ⟨(.type "member_descriptor"), none, (.fields (List.toArray [(.str (Str.ofString "_tail") 709), (.ref 296), (.builtin "proto.slot"), (.builtin "proto.slot#set"), (.int 1 0)])), (List.toArray [])⟩),
  (nat_lit 302, ⟨(.type "member_descriptor"), none, (.fields (List.toArray [(.str (Str.ofString "_tail_offset") 711), (.ref 296), (.builtin "proto.slot"), (.builtin "proto.slot#set"), (.int 0 0)])), (List.toArray [])⟩),
  (nat_lit 303, ⟨(.type "getset_descriptor"), none, (.fields (List.toArray [(.str (Str.ofString "__weakref__") 713), (.ref 296), (.builtin "ExceptionGroup.__weakref__"), .none])), (List.toArray [])⟩),
  (nat_lit 306, ⟨(.type "list"), none, (.seq (List.toArray []) 0), (List.toArray [])⟩),
  (nat_lit 307, ⟨(.type "list"), none, (.seq (List.toArray []) 0), (List.toArray [])⟩),
  (nat_lit 310, ⟨(.type "dict"), none, (.dict (List.toArray []) 0), (List.toArray [])⟩),
  (nat_lit 311, ⟨(.ref 296), (some 310), .plain, (List.toArray [(some (.int 0 719)), (some (.ref 306)), (some (.int 5 368)), (some (.ref 307)), (some (.int 0 736))])⟩),
  (nat_lit 312, ⟨(.type "tuple"), none, (.seq (List.toArray []) 0), (List.toArray [])⟩),
  (nat_lit 313, ⟨(.type "tuple"), none, (.seq (List.toArray [(.ref 312)]) 0), (List.toArray [])⟩),
  (nat_lit 314, ⟨(.type "tuple"), none, (.seq (List.toArray []) 0), (List.toArray [])⟩),
  (nat_lit 316, ⟨(.type "tuple"), none, (.seq (List.toArray [(.str (Str.ofString "iterable") 742)]) 0), (List.toArray [])⟩),
  (nat_lit 317, ⟨(.type "tuple"), none, (.seq (List.toArray []) 0), (List.toArray [])⟩),
  (nat_lit 319, ⟨(.type "code"), none, (.fields (List.toArray [(.str (Str.ofString "python_pvector") 739), (.str (Str.ofString "python_pvector") 740), (.str (Str.ofString "/claim/cut.py") 741), (.int 184 0), (.int 1 0), (.int 0 0), (.int 0 0), (.int 3 0), (.ref 314), (.bool true), (.int 338 0), (.ref 315), .none, (.ref 316), (.ref 317), (.ref 318), (.int 743 0), (.int 184 0), (.str (Str.ofString "/claim/cut.py") 744)])), (List.toArray [])⟩),
  (nat_lit 320, ⟨(.type "function"), none, (.func ⟨(Str.ofString "python_pvector"), (Str.ofString "python_pvector"), a35, .stmts b35, s35, 3, [], (.ref 313), .none, .none, (.str (Str.ofString "pyrsistent._pvector") 351), none, (.ref 319), .none, 0⟩), (List.toArray [])⟩),
  (nat_lit 321, ⟨(.type "tuple"), none, (.seq (List.toArray []) 0), (List.toArray [])⟩),
  (nat_lit 323, ⟨(.type "tuple"), none, (.seq (List.toArray [(.str (Str.ofString "row") 751), (.str (Str.ofString "number") 752), (.str (Str.ofString "kind") 753), (.str (Str.ofString "more") 754), (.str (Str.ofString "count") 755), (.str (Str.ofString "place") 756), (.str (Str.ofString "by") 757)]) 0), (List.toArray [])⟩),
  (nat_lit 324, ⟨(.type "tuple"), none, (.seq (List.toArray []) 0), (List.toArray [])⟩),
  (nat_lit 326, ⟨(.type "code"), none, (.fields (List.toArray [(.str (Str.ofString "_law_changed") 748), (.str (Str.ofString "_law_changed") 749), (.str (Str.ofString "/claim/cut.py") 750), (.int 187 0), (.int 2 0), (.int 0 0), (.int 0 0), (.int 3 0), (.ref 321), (.bool true), (.int 338 0), (.ref 322), .none, (.ref 323), (.ref 324), (.ref 325), (.int 758 0), (.int 187 0), (.str (Str.ofString "/claim/cut.py") 759)])), (List.toArray [])⟩),
  (nat_lit 327, ⟨(.type "function"), none, (.func ⟨(Str.ofString "_law_changed"), (Str.ofString "_law_changed"), a36, .stmts b36, s36, 3, [], .none, .none, .none, (.str (Str.ofString "law_md0019_03") 746), none, (.ref 326), .none, 0⟩), (List.toArray [])⟩),
  (nat_lit 328, ⟨(.type "tuple"), none, (.seq (List.toArray []) 0), (List.toArray [])⟩),
  (nat_lit 330, ⟨(.type "tuple"), none, (.seq (List.toArray [(.str (Str.ofString "left") 764), (.str (Str.ofString "right") 765), (.str (Str.ofString "one") 766), (.str (Str.ofString "other") 767)]) 0), (List.toArray [])⟩),
  (nat_lit 331, ⟨(.type "tuple"), none, (.seq (List.toArray []) 0), (List.toArray [])⟩),
  (nat_lit 333, ⟨(.type "code"), none, (.fields (List.toArray [(.str (Str.ofString "_law_order") 761), (.str (Str.ofString "_law_order") 762), (.str (Str.ofString "/claim/cut.py") 763), (.int 200 0), (.int 2 0), (.int 0 0), (.int 0 0), (.int 3 0), (.ref 328), (.bool true), (.int 338 0), (.ref 329), .none, (.ref 330), (.ref 331), (.ref 332), (.int 768 0), (.int 200 0), (.str (Str.ofString "/claim/cut.py") 769)])), (List.toArray [])⟩),
  (nat_lit 334, ⟨(.type "function"), none, (.func ⟨(Str.ofString "_law_order"), (Str.ofString "_law_order"), a37, .stmts b37, s37, 3, [], .none, .none, .none, (.str (Str.ofString "law_md0019_03") 746), none, (.ref 333), .none, 0⟩), (List.toArray [])⟩),
  (nat_lit 335, ⟨(.type "tuple"), none, (.seq (List.toArray []) 0), (List.toArray [])⟩),
  (nat_lit 337, ⟨(.type "tuple"), none, (.seq (List.toArray [(.str (Str.ofString "left") 774), (.str (Str.ofString "right") 775)]) 0), (List.toArray [])⟩),
  (nat_lit 338, ⟨(.type "tuple"), none, (.seq (List.toArray []) 0), (List.toArray [])⟩),
  (nat_lit 340, ⟨(.type "code"), none, (.fields (List.toArray [(.str (Str.ofString "_law_signs") 771), (.str (Str.ofString "_law_signs") 772), (.str (Str.ofString "/claim/cut.py") 773), (.int 207 0), (.int 2 0), (.int 0 0), (.int 0 0), (.int 3 0), (.ref 335), (.bool true), (.int 338 0), (.ref 336), .none, (.ref 337), (.ref 338), (.ref 339), (.int 776 0), (.int 207 0), (.str (Str.ofString "/claim/cut.py") 777)])), (List.toArray [])⟩),
  (nat_lit 341, ⟨(.type "function"), none, (.func ⟨(Str.ofString "_law_signs"), (Str.ofString "_law_signs"), a38, .stmts b38, s38, 3, [], .none, .none, .none, (.str (Str.ofString "law_md0019_03") 746), none, (.ref 340), .none, 0⟩), (List.toArray [])⟩),
  (nat_lit 342, ⟨(.type "tuple"), none, (.seq (List.toArray []) 0), (List.toArray [])⟩),
  (nat_lit 344, ⟨(.type "tuple"), none, (.seq (List.toArray [(.str (Str.ofString "told") 782), (.str (Str.ofString "due") 783), (.str (Str.ofString "sign") 784), (.str (Str.ofString "wanted") 785)]) 0), (List.toArray [])⟩),
  (nat_lit 345, ⟨(.type "tuple"), none, (.seq (List.toArray []) 0), (List.toArray [])⟩),
  (nat_lit 347, ⟨(.type "code"), none, (.fields (List.toArray [(.str (Str.ofString "_law_same") 779), (.str (Str.ofString "_law_same") 780), (.str (Str.ofString "/claim/cut.py") 781), (.int 209 0), (.int 2 0), (.int 0 0), (.int 0 0), (.int 3 0), (.ref 342), (.bool true), (.int 338 0), (.ref 343), .none, (.ref 344), (.ref 345), (.ref 346), (.int 786 0), (.int 209 0), (.str (Str.ofString "/claim/cut.py") 787)])), (List.toArray [])⟩),
  (nat_lit 348, ⟨(.type "function"), none, (.func ⟨(Str.ofString "_law_same"), (Str.ofString "_law_same"), a39, .stmts b39, s39, 3, [], .none, .none, .none, (.str (Str.ofString "law_md0019_03") 746), none, (.ref 347), .none, 0⟩), (List.toArray [])⟩),
  (nat_lit 349, ⟨(.type "tuple"), none, (.seq (List.toArray []) 0), (List.toArray [])⟩),
  (nat_lit 351, ⟨(.type "tuple"), none, (.seq (List.toArray [(.str (Str.ofString "kind") 792), (.str (Str.ofString "left") 793), (.str (Str.ofString "right") 794)]) 0), (List.toArray [])⟩),
  (nat_lit 352, ⟨(.type "tuple"), none, (.seq (List.toArray []) 0), (List.toArray [])⟩),
  (nat_lit 354, ⟨(.type "code"), none, (.fields (List.toArray [(.str (Str.ofString "_law_asked") 789), (.str (Str.ofString "_law_asked") 790), (.str (Str.ofString "/claim/cut.py") 791), (.int 214 0), (.int 3 0), (.int 0 0), (.int 0 0), (.int 3 0), (.ref 349), (.bool true), (.int 338 0), (.ref 350), .none, (.ref 351), (.ref 352), (.ref 353), (.int 795 0), (.int 214 0), (.str (Str.ofString "/claim/cut.py") 796)])), (List.toArray [])⟩),
  (nat_lit 355, ⟨(.type "function"), none, (.func ⟨(Str.ofString "_law_asked"), (Str.ofString "_law_asked"), a40, .stmts b40, s40, 3, [], .none, .none, .none, (.str (Str.ofString "law_md0019_03") 746), none, (.ref 354), .none, 0⟩), (List.toArray [])⟩),
  (nat_lit 356, ⟨(.type "tuple"), none, (.seq (List.toArray []) 0), (List.toArray [])⟩),
  (nat_lit 359, ⟨(.type "code"), none, (.fields (List.toArray [(.str (Str.ofString "law") 798), (.str (Str.ofString "law") 799), (.str (Str.ofString "/claim/cut.py") 800), (.int 225 0), (.int 1 0), (.int 0 0), (.int 0 0), (.int 3 0), (.ref 356), (.bool true), (.int 338 0), (.ref 357), .none, .none, .none, (.ref 358), (.int 801 0), (.int 225 0), (.str (Str.ofString "/claim/cut.py") 802)])), (List.toArray [])⟩),
  (nat_lit 360, ⟨(.type "function"), none, (.func ⟨(Str.ofString "law"), (Str.ofString "law"), a41, .stmts b41, s41, 3, [], .none, .none, .none, (.str (Str.ofString "law_md0019_03") 746), none, (.ref 359), .none, 0⟩), (List.toArray [])⟩)]
noncomputable def Kby {a0 : Arguments} {b0 : List Stmt} {s0 : Scope} {a1 : Arguments} {b1 : List Stmt} {s1 : Scope} {a2 : Arguments} {b2 : List Stmt} {s2 : Scope} {a3 : Arguments} {b3 : List Stmt} {s3 : Scope} {a4 : Arguments} {b4 : List Stmt} {s4 : Scope} {a5 : Arguments} {b5 : List Stmt} {s5 : Scope} {a6 : Arguments} {b6 : List Stmt} {s6 : Scope} {a7 : Arguments} {b7 : List Stmt} {s7 : Scope} {a8 : Arguments} {b8 : List Stmt} {s8 : Scope} {a9 : Arguments} {b9 : List Stmt} {s9 : Scope} {a10 : Arguments} {b10 : List Stmt} {s10 : Scope} {a11 : Arguments} {b11 : List Stmt} {s11 : Scope} {a12 : Arguments} {b12 : List Stmt} {s12 : Scope} {a13 : Arguments} {b13 : List Stmt} {s13 : Scope} {a14 : Arguments} {b14 : List Stmt} {s14 : Scope} {a15 : Arguments} {b15 : List Stmt} {s15 : Scope} {a16 : Arguments} {b16 : List Stmt} {s16 : Scope} {a17 : Arguments} {b17 : List Stmt} {s17 : Scope} {a18 : Arguments} {b18 : List Stmt} {s18 : Scope} {a19 : Arguments} {b19 : List Stmt} {s19 : Scope} {a20 : Arguments} {b20 : List Stmt} {s20 : Scope} {a21 : Arguments} {b21 : List Stmt} {s21 : Scope} {a22 : Arguments} {b22 : List Stmt} {s22 : Scope} {a23 : Arguments} {b23 : List Stmt} {s23 : Scope} {a24 : Arguments} {b24 : List Stmt} {s24 : Scope} {a25 : Arguments} {b25 : List Stmt} {s25 : Scope} {a26 : Arguments} {b26 : List Stmt} {s26 : Scope} {a27 : Arguments} {b27 : List Stmt} {s27 : Scope} {a28 : Arguments} {b28 : List Stmt} {s28 : Scope} {a29 : Arguments} {b29 : List Stmt} {s29 : Scope} {a30 : Arguments} {b30 : List Stmt} {s30 : Scope} {a31 : Arguments} {b31 : List Stmt} {s31 : Scope} {a32 : Arguments} {b32 : List Stmt} {s32 : Scope} {a33 : Arguments} {b33 : List Stmt} {s33 : Scope} {a34 : Arguments} {b34 : List Stmt} {s34 : Scope} {a35 : Arguments} {b35 : List Stmt} {s35 : Scope} {a36 : Arguments} {b36 : List Stmt} {s36 : Scope} {a37 : Arguments} {b37 : List Stmt} {s37 : Scope} {a38 : Arguments} {b38 : List Stmt} {s38 : Scope} {a39 : Arguments} {b39 : List Stmt} {s39 : Scope} {a40 : Arguments} {b40 : List Stmt} {s40 : Scope} {a41 : Arguments} {b41 : List Stmt} {s41 : Scope} (h : fnsOf PySem.Challenge.pw_md0019_03.main.body = [(a0, b0, s0), (a1, b1, s1), (a2, b2, s2), (a3, b3, s3), (a4, b4, s4), (a5, b5, s5), (a6, b6, s6), (a7, b7, s7), (a8, b8, s8), (a9, b9, s9), (a10, b10, s10), (a11, b11, s11), (a12, b12, s12), (a13, b13, s13), (a14, b14, s14), (a15, b15, s15), (a16, b16, s16), (a17, b17, s17), (a18, b18, s18), (a19, b19, s19), (a20, b20, s20), (a21, b21, s21), (a22, b22, s22), (a23, b23, s23), (a24, b24, s24), (a25, b25, s25), (a26, b26, s26), (a27, b27, s27), (a28, b28, s28), (a29, b29, s29), (a30, b30, s30), (a31, b31, s31), (a32, b32, s32), (a33, b33, s33), (a34, b34, s34), (a35, b35, s35), (a36, b36, s36), (a37, b37, s37), (a38, b38, s38), (a39, b39, s39), (a40, b40, s40), (a41, b41, s41)]) : Params → Frag := Kmk a0 b0 s0 a1 b1 s1 a2 b2 s2 a3 b3 s3 a4 b4 s4 a5 b5 s5 a6 b6 s6 a7 b7 s7 a8 b8 s8 a9 b9 s9 a10 b10 s10 a11 b11 s11 a12 b12 s12 a13 b13 s13 a14 b14 s14 a15 b15 s15 a16 b16 s16 a17 b17 s17 a18 b18 s18 a19 b19 s19 a20 b20 s20 a21 b21 s21 a22 b22 s22 a23 b23 s23 a24 b24 s24 a25 b25 s25 a26 b26 s26 a27 b27 s27 a28 b28 s28 a29 b29 s29 a30 b30 s30 a31 b31 s31 a32 b32 s32 a33 b33 s33 a34 b34 s34 a35 b35 s35 a36 b36 s36 a37 b37 s37 a38 b38 s38 a39 b39 s39 a40 b40 s40 a41 b41 s41
noncomputable def KF : Params → Frag := Kby (by with_unfolding_all rfl)
def KA : List Addr := [2, 3, 33, 35, 36, 38, 39, 48, 50, 51, 53, 54, 55, 58, 63, 64, 65, 67, 68, 70, 71, 72, 74, 75, 77, 78, 79, 81, 82, 84, 85, 86, 88, 89, 91, 92, 93, 95, 96, 98, 99, 100, 102, 103, 105, 106, 107, 109, 110, 112, 113, 114, 116, 117, 119, 120, 121, 123, 124, 126, 127, 128, 130, 131, 133, 134, 135, 137, 138, 140, 141, 142, 144, 145, 147, 148, 149, 151, 152, 154, 155, 156, 158, 159, 161, 162, 163, 165, 166, 168, 169, 170, 172, 173, 175, 176, 177, 179, 180, 182, 183, 184, 186, 187, 189, 190, 191, 193, 194, 196, 197, 198, 200, 201, 203, 204, 205, 206, 207, 208, 210, 211, 213, 214, 215, 217, 218, 220, 221, 222, 224, 225, 227, 228, 229, 231, 232, 234, 235, 236, 238, 239, 241, 242, 243, 245, 246, 248, 249, 250, 252, 253, 255, 256, 257, 259, 260, 262, 263, 264, 266, 267, 269, 270, 271, 273, 274, 276, 277, 278, 279, 281, 282, 284, 285, 286, 288, 289, 291, 292, 293, 295, 296, 297, 298, 299, 300, 301, 302, 303, 306, 307, 310, 311, 312, 313, 314, 316, 317, 319, 320, 321, 323, 324, 326, 327, 328, 330, 331, 333, 334, 335, 337, 338, 340, 341, 342, 344, 345, 347, 348, 349, 351, 352, 354, 355, 356, 359, 360]
abbrev vw : Program := PySem.W.view PySem.Challenge.pw_md0019_03 [0, 1, 3, 4, 5, 6, 7, 8, 9, 12, 13, 14, 15, 16, 17]
abbrev vl : List Str := [Str.ofString "BIT_MASK", Str.ofString "SHIFT", Str.ofString "PythonPVector", Str.ofString "_EMPTY_PVECTOR", Str.ofString "python_pvector"]
abbrev vv : List (Str × WData) := [(Str.ofString "BIT_MASK", WData.int 31), (Str.ofString "SHIFT", WData.int 5)]
theorem KA_is : ∀ P, KA = (KF P).map (·.1) := fun _ => by kernel_rfl
theorem left_is : LeftO PySem.Challenge.pw_md0019_03 vw vl (fun s => xlAt vw vv s && recOk (RowW.records PySem.Challenge.rw_md0019_03.row.toRowW) s) (Hook.obs (kHook KF KA KA_is)) (Hook.val (kHook KF KA KA_is)) 4866 := by
  refine left_of ?_
  rw [PySem.W.Fast.te10156331382660048174, PySem.W.Fast.te11892475500146522536, PySem.W.Fast.te14364793385576792824, PySem.W.Fast.te1435165496053646825, PySem.W.Fast.te14289696077712309145, PySem.W.Fast.te4187177175401517315]
  intro w
  kernel_rfl
set_option maxHeartbeats 200000
noncomputable abbrev KK (w : World) : Frag := KF w.params
abbrev aC : Addr := 296
abbrev aEmpty : Addr := 311
abbrev sm_new : Addr := 297
abbrev m_dunder_new : Addr := 71
abbrev m_dunder_len : Addr := 78
abbrev m_dunder_getitem : Addr := 85
abbrev m_dunder_add : Addr := 92
abbrev m_dunder_repr : Addr := 99
abbrev m_dunder_str : Addr := 106
abbrev m_dunder_iter : Addr := 113
abbrev m_dunder_ne : Addr := 120
abbrev m_dunder_eq : Addr := 127
abbrev m_dunder_gt : Addr := 134
abbrev m_dunder_lt : Addr := 141
abbrev m_dunder_ge : Addr := 148
abbrev m_dunder_le : Addr := 155
abbrev m_dunder_mul : Addr := 162
abbrev m_dunder_rmul : Addr := 162
abbrev m_fill_list : Addr := 169
abbrev m_tolist : Addr := 176
abbrev m_totuple : Addr := 183
abbrev m_set : Addr := 190
abbrev m_do_set : Addr := 197
abbrev sm_node_for : Addr := 206
abbrev m_node_for : Addr := 204
abbrev m_create_new_root : Addr := 214
abbrev m_append : Addr := 221
abbrev m_new_path : Addr := 228
abbrev m_mutating_insert_tail : Addr := 235
abbrev m_mutating_fill_tail : Addr := 242
abbrev m_mutating_extend : Addr := 249
abbrev m_extend : Addr := 256
abbrev m_push_tail : Addr := 263
abbrev m_index : Addr := 270
abbrev m_count : Addr := 277
abbrev m_delete : Addr := 285
abbrev m_remove : Addr := 292
abbrev g_wall : Addr := 39
abbrev g_bitcount : Addr := 46
abbrev g_compare_pvector : Addr := 54
abbrev g_python_pvector : Addr := 320
abbrev g_law_changed : Addr := 327
abbrev g_law_order : Addr := 334
abbrev g_law_signs : Addr := 341
abbrev g_law_same : Addr := 348
abbrev g_law_asked : Addr := 355
abbrev g_law : Addr := 360
noncomputable def ob (w : World) (a : Addr) : Obj := ((KK w).lookup a).getD default
theorem lk {w : World} (a : Addr) (e : ((KK w).lookup a).isSome = true) : (KK w).lookup a = some (ob w a) := by
  unfold ob; cases h : (KK w).lookup a with
  | none => rw [h] at e; cases e
  | some o => rfl
abbrev IO (dx : Addr) (sl : List (Option Value)) : Obj := { cls := .ref aC, dict := some dx, data := .plain, slots := sl.toArray }
theorem arr_set (l : List (Option Value)) (i : Nat) (v : Value) : (l.toArray ++ Array.replicate (i + 1 - l.toArray.size) none).setIfInBounds i (some v) = ((l ++ List.replicate (i + 1 - l.length) none).set i (some v)).toArray := by
  apply Array.toList_inj.mp; simp
theorem inst_of {h : Heap} {x dx : Addr} {sl : List (Option Value)} (hx : h.get? x = some (IO dx sl)) (hdx : h.get? dx = some emptyDict) : InstAt h x (IO dx sl) aC (some emptyDict) := ⟨hx, rfl, rfl, hdx⟩
section
variable {prog : Program} {w : World} {A : Around} {E : Value → Shared → Prop} {hp : Heap} {gs : Array GenState} {dr : Drawn} {tk : Nat} {os : OsState} {mg mb : Str → Option Value} {x dx : Addr} {ox : Obj} {sl : List (Option Value)} {v : Value} {b : Heap} {L a : Addr} {m : Str → Option Value} {own : List (Addr × Obj)} {cn : Str} {cs : Scope} {ccd : Value} {cl : List (Str × Addr)} {pos : Pos} {Q : Value → Shared → Prop}
theorem nm_eq (F : Fx b L hp m own) (T : Tp (KK w) mg mb b) (h : Q (.builtin "_operator.eq") ⟨hp, gs, dr, tk, os⟩) (hk : cs.kind = .function := by with_unfolding_all rfl) (hx : (envX cn cs L a ccd cl).kindOf (Str.ofString "eq") = some .globalImplicit := by with_unfolding_all rfl) :
    wpAny (model prog w) A (eval (.Name (Str.ofString "eq") pos) (envX cn cs L a ccd cl)) Q E ⟨hp, gs, dr, tk, os⟩ := n_glob F T (by kernel_rfl) h hk hx (by decide)
theorem nm_ge (F : Fx b L hp m own) (T : Tp (KK w) mg mb b) (h : Q (.builtin "_operator.ge") ⟨hp, gs, dr, tk, os⟩) (hk : cs.kind = .function := by with_unfolding_all rfl) (hx : (envX cn cs L a ccd cl).kindOf (Str.ofString "ge") = some .globalImplicit := by with_unfolding_all rfl) :
    wpAny (model prog w) A (eval (.Name (Str.ofString "ge") pos) (envX cn cs L a ccd cl)) Q E ⟨hp, gs, dr, tk, os⟩ := n_glob F T (by kernel_rfl) h hk hx (by decide)
theorem nm_gt (F : Fx b L hp m own) (T : Tp (KK w) mg mb b) (h : Q (.builtin "_operator.gt") ⟨hp, gs, dr, tk, os⟩) (hk : cs.kind = .function := by with_unfolding_all rfl) (hx : (envX cn cs L a ccd cl).kindOf (Str.ofString "gt") = some .globalImplicit := by with_unfolding_all rfl) :
    wpAny (model prog w) A (eval (.Name (Str.ofString "gt") pos) (envX cn cs L a ccd cl)) Q E ⟨hp, gs, dr, tk, os⟩ := n_glob F T (by kernel_rfl) h hk hx (by decide)
theorem nm_le (F : Fx b L hp m own) (T : Tp (KK w) mg mb b) (h : Q (.builtin "_operator.le") ⟨hp, gs, dr, tk, os⟩) (hk : cs.kind = .function := by with_unfolding_all rfl) (hx : (envX cn cs L a ccd cl).kindOf (Str.ofString "le") = some .globalImplicit := by with_unfolding_all rfl) :
    wpAny (model prog w) A (eval (.Name (Str.ofString "le") pos) (envX cn cs L a ccd cl)) Q E ⟨hp, gs, dr, tk, os⟩ := n_glob F T (by kernel_rfl) h hk hx (by decide)
theorem nm_lt (F : Fx b L hp m own) (T : Tp (KK w) mg mb b) (h : Q (.builtin "_operator.lt") ⟨hp, gs, dr, tk, os⟩) (hk : cs.kind = .function := by with_unfolding_all rfl) (hx : (envX cn cs L a ccd cl).kindOf (Str.ofString "lt") = some .globalImplicit := by with_unfolding_all rfl) :
    wpAny (model prog w) A (eval (.Name (Str.ofString "lt") pos) (envX cn cs L a ccd cl)) Q E ⟨hp, gs, dr, tk, os⟩ := n_glob F T (by kernel_rfl) h hk hx (by decide)
theorem nm_BRANCH_FACTOR (F : Fx b L hp m own) (T : Tp (KK w) mg mb b) (h : Q (.int 32 360) ⟨hp, gs, dr, tk, os⟩) (hk : cs.kind = .function := by with_unfolding_all rfl) (hx : (envX cn cs L a ccd cl).kindOf (Str.ofString "BRANCH_FACTOR") = some .globalImplicit := by with_unfolding_all rfl) :
    wpAny (model prog w) A (eval (.Name (Str.ofString "BRANCH_FACTOR") pos) (envX cn cs L a ccd cl)) Q E ⟨hp, gs, dr, tk, os⟩ := n_glob F T (by kernel_rfl) h hk hx (by decide)
theorem nm_SHIFT (F : Fx b L hp m own) (T : Tp (KK w) mg mb b) (h : Q (.int 5 368) ⟨hp, gs, dr, tk, os⟩) (hk : cs.kind = .function := by with_unfolding_all rfl) (hx : (envX cn cs L a ccd cl).kindOf (Str.ofString "SHIFT") = some .globalImplicit := by with_unfolding_all rfl) :
    wpAny (model prog w) A (eval (.Name (Str.ofString "SHIFT") pos) (envX cn cs L a ccd cl)) Q E ⟨hp, gs, dr, tk, os⟩ := n_glob F T (by kernel_rfl) h hk hx (by decide)
theorem nm_compare_pvector (F : Fx b L hp m own) (T : Tp (KK w) mg mb b) (h : Q (.ref 54) ⟨hp, gs, dr, tk, os⟩) (hk : cs.kind = .function := by with_unfolding_all rfl) (hx : (envX cn cs L a ccd cl).kindOf (Str.ofString "compare_pvector") = some .globalImplicit := by with_unfolding_all rfl) :
    wpAny (model prog w) A (eval (.Name (Str.ofString "compare_pvector") pos) (envX cn cs L a ccd cl)) Q E ⟨hp, gs, dr, tk, os⟩ := n_glob F T (by kernel_rfl) h hk hx (by decide)
theorem nm_PythonPVector (F : Fx b L hp m own) (T : Tp (KK w) mg mb b) (h : Q (.ref 296) ⟨hp, gs, dr, tk, os⟩) (hk : cs.kind = .function := by with_unfolding_all rfl) (hx : (envX cn cs L a ccd cl).kindOf (Str.ofString "PythonPVector") = some .globalImplicit := by with_unfolding_all rfl) :
    wpAny (model prog w) A (eval (.Name (Str.ofString "PythonPVector") pos) (envX cn cs L a ccd cl)) Q E ⟨hp, gs, dr, tk, os⟩ := n_glob F T (by kernel_rfl) h hk hx (by decide)
theorem nm_EMPTY_PVECTOR (F : Fx b L hp m own) (T : Tp (KK w) mg mb b) (h : Q (.ref 311) ⟨hp, gs, dr, tk, os⟩) (hk : cs.kind = .function := by with_unfolding_all rfl) (hx : (envX cn cs L a ccd cl).kindOf (Str.ofString "_EMPTY_PVECTOR") = some .globalImplicit := by with_unfolding_all rfl) :
    wpAny (model prog w) A (eval (.Name (Str.ofString "_EMPTY_PVECTOR") pos) (envX cn cs L a ccd cl)) Q E ⟨hp, gs, dr, tk, os⟩ := n_glob F T (by kernel_rfl) h hk hx (by decide)
theorem nm_law_changed (F : Fx b L hp m own) (T : Tp (KK w) mg mb b) (h : Q (.ref 327) ⟨hp, gs, dr, tk, os⟩) (hk : cs.kind = .function := by with_unfolding_all rfl) (hx : (envX cn cs L a ccd cl).kindOf (Str.ofString "_law_changed") = some .globalImplicit := by with_unfolding_all rfl) :
    wpAny (model prog w) A (eval (.Name (Str.ofString "_law_changed") pos) (envX cn cs L a ccd cl)) Q E ⟨hp, gs, dr, tk, os⟩ := n_glob F T (by kernel_rfl) h hk hx (by decide)
theorem nm_law_order (F : Fx b L hp m own) (T : Tp (KK w) mg mb b) (h : Q (.ref 334) ⟨hp, gs, dr, tk, os⟩) (hk : cs.kind = .function := by with_unfolding_all rfl) (hx : (envX cn cs L a ccd cl).kindOf (Str.ofString "_law_order") = some .globalImplicit := by with_unfolding_all rfl) :
    wpAny (model prog w) A (eval (.Name (Str.ofString "_law_order") pos) (envX cn cs L a ccd cl)) Q E ⟨hp, gs, dr, tk, os⟩ := n_glob F T (by kernel_rfl) h hk hx (by decide)
theorem nm_law_signs (F : Fx b L hp m own) (T : Tp (KK w) mg mb b) (h : Q (.ref 341) ⟨hp, gs, dr, tk, os⟩) (hk : cs.kind = .function := by with_unfolding_all rfl) (hx : (envX cn cs L a ccd cl).kindOf (Str.ofString "_law_signs") = some .globalImplicit := by with_unfolding_all rfl) :
    wpAny (model prog w) A (eval (.Name (Str.ofString "_law_signs") pos) (envX cn cs L a ccd cl)) Q E ⟨hp, gs, dr, tk, os⟩ := n_glob F T (by kernel_rfl) h hk hx (by decide)
theorem nm_law_same (F : Fx b L hp m own) (T : Tp (KK w) mg mb b) (h : Q (.ref 348) ⟨hp, gs, dr, tk, os⟩) (hk : cs.kind = .function := by with_unfolding_all rfl) (hx : (envX cn cs L a ccd cl).kindOf (Str.ofString "_law_same") = some .globalImplicit := by with_unfolding_all rfl) :
    wpAny (model prog w) A (eval (.Name (Str.ofString "_law_same") pos) (envX cn cs L a ccd cl)) Q E ⟨hp, gs, dr, tk, os⟩ := n_glob F T (by kernel_rfl) h hk hx (by decide)
theorem nm_law_asked (F : Fx b L hp m own) (T : Tp (KK w) mg mb b) (h : Q (.ref 355) ⟨hp, gs, dr, tk, os⟩) (hk : cs.kind = .function := by with_unfolding_all rfl) (hx : (envX cn cs L a ccd cl).kindOf (Str.ofString "_law_asked") = some .globalImplicit := by with_unfolding_all rfl) :
    wpAny (model prog w) A (eval (.Name (Str.ofString "_law_asked") pos) (envX cn cs L a ccd cl)) Q E ⟨hp, gs, dr, tk, os⟩ := n_glob F T (by kernel_rfl) h hk hx (by decide)
theorem nm_len (F : Fx b L hp m own) (T : Tp (KK w) mg mb b) (h : Q (.builtin "len") ⟨hp, gs, dr, tk, os⟩) (hk : cs.kind = .function := by with_unfolding_all rfl) (hx : (envX cn cs L a ccd cl).kindOf (Str.ofString "len") = some .globalImplicit := by with_unfolding_all rfl) :
    wpAny (model prog w) A (eval (.Name (Str.ofString "len") pos) (envX cn cs L a ccd cl)) Q E ⟨hp, gs, dr, tk, os⟩ := n_blt F T (by kernel_rfl) (by kernel_rfl) h (by decide) hk hx (by decide)
theorem nm_list (F : Fx b L hp m own) (T : Tp (KK w) mg mb b) (h : Q (.type "list") ⟨hp, gs, dr, tk, os⟩) (hk : cs.kind = .function := by with_unfolding_all rfl) (hx : (envX cn cs L a ccd cl).kindOf (Str.ofString "list") = some .globalImplicit := by with_unfolding_all rfl) :
    wpAny (model prog w) A (eval (.Name (Str.ofString "list") pos) (envX cn cs L a ccd cl)) Q E ⟨hp, gs, dr, tk, os⟩ := n_blt F T (by kernel_rfl) (by kernel_rfl) h (by decide) hk hx (by decide)
theorem nm_range (F : Fx b L hp m own) (T : Tp (KK w) mg mb b) (h : Q (.type "range") ⟨hp, gs, dr, tk, os⟩) (hk : cs.kind = .function := by with_unfolding_all rfl) (hx : (envX cn cs L a ccd cl).kindOf (Str.ofString "range") = some .globalImplicit := by with_unfolding_all rfl) :
    wpAny (model prog w) A (eval (.Name (Str.ofString "range") pos) (envX cn cs L a ccd cl)) Q E ⟨hp, gs, dr, tk, os⟩ := n_blt F T (by kernel_rfl) (by kernel_rfl) h (by decide) hk hx (by decide)
theorem nm_isinstance (F : Fx b L hp m own) (T : Tp (KK w) mg mb b) (h : Q (.builtin "isinstance") ⟨hp, gs, dr, tk, os⟩) (hk : cs.kind = .function := by with_unfolding_all rfl) (hx : (envX cn cs L a ccd cl).kindOf (Str.ofString "isinstance") = some .globalImplicit := by with_unfolding_all rfl) :
    wpAny (model prog w) A (eval (.Name (Str.ofString "isinstance") pos) (envX cn cs L a ccd cl)) Q E ⟨hp, gs, dr, tk, os⟩ := n_blt F T (by kernel_rfl) (by kernel_rfl) h (by decide) hk hx (by decide)
theorem nm_zip (F : Fx b L hp m own) (T : Tp (KK w) mg mb b) (h : Q (.type "zip") ⟨hp, gs, dr, tk, os⟩) (hk : cs.kind = .function := by with_unfolding_all rfl) (hx : (envX cn cs L a ccd cl).kindOf (Str.ofString "zip") = some .globalImplicit := by with_unfolding_all rfl) :
    wpAny (model prog w) A (eval (.Name (Str.ofString "zip") pos) (envX cn cs L a ccd cl)) Q E ⟨hp, gs, dr, tk, os⟩ := n_blt F T (by kernel_rfl) (by kernel_rfl) h (by decide) hk hx (by decide)
theorem nm_hasattr (F : Fx b L hp m own) (T : Tp (KK w) mg mb b) (h : Q (.builtin "hasattr") ⟨hp, gs, dr, tk, os⟩) (hk : cs.kind = .function := by with_unfolding_all rfl) (hx : (envX cn cs L a ccd cl).kindOf (Str.ofString "hasattr") = some .globalImplicit := by with_unfolding_all rfl) :
    wpAny (model prog w) A (eval (.Name (Str.ofString "hasattr") pos) (envX cn cs L a ccd cl)) Q E ⟨hp, gs, dr, tk, os⟩ := n_blt F T (by kernel_rfl) (by kernel_rfl) h (by decide) hk hx (by decide)
theorem nm_tuple (F : Fx b L hp m own) (T : Tp (KK w) mg mb b) (h : Q (.type "tuple") ⟨hp, gs, dr, tk, os⟩) (hk : cs.kind = .function := by with_unfolding_all rfl) (hx : (envX cn cs L a ccd cl).kindOf (Str.ofString "tuple") = some .globalImplicit := by with_unfolding_all rfl) :
    wpAny (model prog w) A (eval (.Name (Str.ofString "tuple") pos) (envX cn cs L a ccd cl)) Q E ⟨hp, gs, dr, tk, os⟩ := n_blt F T (by kernel_rfl) (by kernel_rfl) h (by decide) hk hx (by decide)
theorem nm_super (F : Fx b L hp m own) (T : Tp (KK w) mg mb b) (h : Q (.type "super") ⟨hp, gs, dr, tk, os⟩) (hk : cs.kind = .function := by with_unfolding_all rfl) (hx : (envX cn cs L a ccd cl).kindOf (Str.ofString "super") = some .globalImplicit := by with_unfolding_all rfl) :
    wpAny (model prog w) A (eval (.Name (Str.ofString "super") pos) (envX cn cs L a ccd cl)) Q E ⟨hp, gs, dr, tk, os⟩ := n_blt F T (by kernel_rfl) (by kernel_rfl) h (by decide) hk hx (by decide)
theorem gm_fn {name : Str} {f : Addr} {pl : Sem Bool} {Q : Value × List Value → Shared → Prop} (X : (KK w).In hp) (I : InstAt hp x ox aC (some emptyDict))
    (hf : findIn (KK w) (.ref aC) name = some (some (.ref f))) (ht : typeIn (KK w) (.ref f) = some (.type "function")) (h : Q (.ref f, [.ref x]) ⟨hp, gs, dr, tk, os⟩) : wpAny (model prog w) A (getMethod (.ref x) name pl) Q E ⟨hp, gs, dr, tk, os⟩ :=
  method_fn X I (by kernel_rfl) (by kernel_rfl) hf ht rfl h
theorem gm_fill_list {pl : Sem Bool} {Q : Value × List Value → Shared → Prop} (X : (KK w).In hp) (hx : hp.get? x = some (IO dx sl)) (hdx : hp.get? dx = some emptyDict) (h : Q (.ref m_fill_list, [.ref x]) ⟨hp, gs, dr, tk, os⟩) :
    wpAny (model prog w) A (getMethod (.ref x) (Str.ofString "_fill_list") pl) Q E ⟨hp, gs, dr, tk, os⟩ := gm_fn X (inst_of hx hdx) (by kernel_rfl) (by kernel_rfl) h
theorem gm_tolist {pl : Sem Bool} {Q : Value × List Value → Shared → Prop} (X : (KK w).In hp) (hx : hp.get? x = some (IO dx sl)) (hdx : hp.get? dx = some emptyDict) (h : Q (.ref m_tolist, [.ref x]) ⟨hp, gs, dr, tk, os⟩) :
    wpAny (model prog w) A (getMethod (.ref x) (Str.ofString "tolist") pl) Q E ⟨hp, gs, dr, tk, os⟩ := gm_fn X (inst_of hx hdx) (by kernel_rfl) (by kernel_rfl) h
theorem gm_create_new_root {pl : Sem Bool} {Q : Value × List Value → Shared → Prop} (X : (KK w).In hp) (hx : hp.get? x = some (IO dx sl)) (hdx : hp.get? dx = some emptyDict) (h : Q (.ref m_create_new_root, [.ref x]) ⟨hp, gs, dr, tk, os⟩) :
    wpAny (model prog w) A (getMethod (.ref x) (Str.ofString "_create_new_root") pl) Q E ⟨hp, gs, dr, tk, os⟩ := gm_fn X (inst_of hx hdx) (by kernel_rfl) (by kernel_rfl) h
theorem gm_append {pl : Sem Bool} {Q : Value × List Value → Shared → Prop} (X : (KK w).In hp) (hx : hp.get? x = some (IO dx sl)) (hdx : hp.get? dx = some emptyDict) (h : Q (.ref m_append, [.ref x]) ⟨hp, gs, dr, tk, os⟩) :
    wpAny (model prog w) A (getMethod (.ref x) (Str.ofString "append") pl) Q E ⟨hp, gs, dr, tk, os⟩ := gm_fn X (inst_of hx hdx) (by kernel_rfl) (by kernel_rfl) h
theorem gm_mutating_insert_tail {pl : Sem Bool} {Q : Value × List Value → Shared → Prop} (X : (KK w).In hp) (hx : hp.get? x = some (IO dx sl)) (hdx : hp.get? dx = some emptyDict) (h : Q (.ref m_mutating_insert_tail, [.ref x]) ⟨hp, gs, dr, tk, os⟩) :
    wpAny (model prog w) A (getMethod (.ref x) (Str.ofString "_mutating_insert_tail") pl) Q E ⟨hp, gs, dr, tk, os⟩ := gm_fn X (inst_of hx hdx) (by kernel_rfl) (by kernel_rfl) h
theorem gm_mutating_fill_tail {pl : Sem Bool} {Q : Value × List Value → Shared → Prop} (X : (KK w).In hp) (hx : hp.get? x = some (IO dx sl)) (hdx : hp.get? dx = some emptyDict) (h : Q (.ref m_mutating_fill_tail, [.ref x]) ⟨hp, gs, dr, tk, os⟩) :
    wpAny (model prog w) A (getMethod (.ref x) (Str.ofString "_mutating_fill_tail") pl) Q E ⟨hp, gs, dr, tk, os⟩ := gm_fn X (inst_of hx hdx) (by kernel_rfl) (by kernel_rfl) h
theorem gm_mutating_extend {pl : Sem Bool} {Q : Value × List Value → Shared → Prop} (X : (KK w).In hp) (hx : hp.get? x = some (IO dx sl)) (hdx : hp.get? dx = some emptyDict) (h : Q (.ref m_mutating_extend, [.ref x]) ⟨hp, gs, dr, tk, os⟩) :
    wpAny (model prog w) A (getMethod (.ref x) (Str.ofString "_mutating_extend") pl) Q E ⟨hp, gs, dr, tk, os⟩ := gm_fn X (inst_of hx hdx) (by kernel_rfl) (by kernel_rfl) h
theorem gm_extend {pl : Sem Bool} {Q : Value × List Value → Shared → Prop} (X : (KK w).In hp) (hx : hp.get? x = some (IO dx sl)) (hdx : hp.get? dx = some emptyDict) (h : Q (.ref m_extend, [.ref x]) ⟨hp, gs, dr, tk, os⟩) :
    wpAny (model prog w) A (getMethod (.ref x) (Str.ofString "extend") pl) Q E ⟨hp, gs, dr, tk, os⟩ := gm_fn X (inst_of hx hdx) (by kernel_rfl) (by kernel_rfl) h
theorem gm_push_tail {pl : Sem Bool} {Q : Value × List Value → Shared → Prop} (X : (KK w).In hp) (hx : hp.get? x = some (IO dx sl)) (hdx : hp.get? dx = some emptyDict) (h : Q (.ref m_push_tail, [.ref x]) ⟨hp, gs, dr, tk, os⟩) :
    wpAny (model prog w) A (getMethod (.ref x) (Str.ofString "_push_tail") pl) Q E ⟨hp, gs, dr, tk, os⟩ := gm_fn X (inst_of hx hdx) (by kernel_rfl) (by kernel_rfl) h
theorem ga_count {expr : Bool} (X : (KK w).In hp) (hx : hp.get? x = some (IO dx sl)) (hdx : hp.get? dx = some emptyDict) (hv : (sl[0]?).join = some v) (hh : handedIn v = true) (h : Q v ⟨hp, gs, dr, tk + 1, os⟩) :
    wpAny (model prog w) A (getAttr (.ref x) (Str.ofString "_count") expr) Q E ⟨hp, gs, dr, tk, os⟩ :=
  ga_slot (p := 298) (i := 0) X (inst_of hx hdx) (by kernel_rfl) (by kernel_rfl) (by kernel_rfl) (by kernel_rfl) (by kernel_rfl) (by kernel_rfl) (by simpa using hv) hh h
theorem sa_count {Q : Unit → Shared → Prop} (F : Fx b L hp m ((x, IO dx sl) :: own)) (X : (KK w).In hp) (hdx : hp.get? dx = some emptyDict)
    (h : ∀ h', Fx b L h' m ((x, IO dx ((sl ++ List.replicate (0 + 1 - sl.length) none).set 0 (some v))) :: own) → Q () ⟨h', gs, dr, tk + 1, os⟩) : wpAny (model prog w) A (setAttr (.ref x) (Str.ofString "_count") v) Q E ⟨hp, gs, dr, tk, os⟩ :=
  sa_slot (p := 298) (i := 0) F X (inst_of F.head hdx) (by kernel_rfl) (by kernel_rfl) (by kernel_rfl) (by kernel_rfl) (by kernel_rfl) (by decide) (by rw [arr_set]) rfl h
theorem ga_root {expr : Bool} (X : (KK w).In hp) (hx : hp.get? x = some (IO dx sl)) (hdx : hp.get? dx = some emptyDict) (hv : (sl[1]?).join = some v) (hh : handedIn v = true) (h : Q v ⟨hp, gs, dr, tk + 1, os⟩) :
    wpAny (model prog w) A (getAttr (.ref x) (Str.ofString "_root") expr) Q E ⟨hp, gs, dr, tk, os⟩ :=
  ga_slot (p := 299) (i := 1) X (inst_of hx hdx) (by kernel_rfl) (by kernel_rfl) (by kernel_rfl) (by kernel_rfl) (by kernel_rfl) (by kernel_rfl) (by simpa using hv) hh h
theorem sa_root {Q : Unit → Shared → Prop} (F : Fx b L hp m ((x, IO dx sl) :: own)) (X : (KK w).In hp) (hdx : hp.get? dx = some emptyDict)
    (h : ∀ h', Fx b L h' m ((x, IO dx ((sl ++ List.replicate (1 + 1 - sl.length) none).set 1 (some v))) :: own) → Q () ⟨h', gs, dr, tk + 1, os⟩) : wpAny (model prog w) A (setAttr (.ref x) (Str.ofString "_root") v) Q E ⟨hp, gs, dr, tk, os⟩ :=
  sa_slot (p := 299) (i := 1) F X (inst_of F.head hdx) (by kernel_rfl) (by kernel_rfl) (by kernel_rfl) (by kernel_rfl) (by kernel_rfl) (by decide) (by rw [arr_set]) rfl h
theorem ga_shift {expr : Bool} (X : (KK w).In hp) (hx : hp.get? x = some (IO dx sl)) (hdx : hp.get? dx = some emptyDict) (hv : (sl[2]?).join = some v) (hh : handedIn v = true) (h : Q v ⟨hp, gs, dr, tk + 1, os⟩) :
    wpAny (model prog w) A (getAttr (.ref x) (Str.ofString "_shift") expr) Q E ⟨hp, gs, dr, tk, os⟩ :=
  ga_slot (p := 300) (i := 2) X (inst_of hx hdx) (by kernel_rfl) (by kernel_rfl) (by kernel_rfl) (by kernel_rfl) (by kernel_rfl) (by kernel_rfl) (by simpa using hv) hh h
theorem sa_shift {Q : Unit → Shared → Prop} (F : Fx b L hp m ((x, IO dx sl) :: own)) (X : (KK w).In hp) (hdx : hp.get? dx = some emptyDict)
    (h : ∀ h', Fx b L h' m ((x, IO dx ((sl ++ List.replicate (2 + 1 - sl.length) none).set 2 (some v))) :: own) → Q () ⟨h', gs, dr, tk + 1, os⟩) : wpAny (model prog w) A (setAttr (.ref x) (Str.ofString "_shift") v) Q E ⟨hp, gs, dr, tk, os⟩ :=
  sa_slot (p := 300) (i := 2) F X (inst_of F.head hdx) (by kernel_rfl) (by kernel_rfl) (by kernel_rfl) (by kernel_rfl) (by kernel_rfl) (by decide) (by rw [arr_set]) rfl h
theorem ga_tail {expr : Bool} (X : (KK w).In hp) (hx : hp.get? x = some (IO dx sl)) (hdx : hp.get? dx = some emptyDict) (hv : (sl[3]?).join = some v) (hh : handedIn v = true) (h : Q v ⟨hp, gs, dr, tk + 1, os⟩) :
    wpAny (model prog w) A (getAttr (.ref x) (Str.ofString "_tail") expr) Q E ⟨hp, gs, dr, tk, os⟩ :=
  ga_slot (p := 301) (i := 3) X (inst_of hx hdx) (by kernel_rfl) (by kernel_rfl) (by kernel_rfl) (by kernel_rfl) (by kernel_rfl) (by kernel_rfl) (by simpa using hv) hh h
theorem sa_tail {Q : Unit → Shared → Prop} (F : Fx b L hp m ((x, IO dx sl) :: own)) (X : (KK w).In hp) (hdx : hp.get? dx = some emptyDict)
    (h : ∀ h', Fx b L h' m ((x, IO dx ((sl ++ List.replicate (3 + 1 - sl.length) none).set 3 (some v))) :: own) → Q () ⟨h', gs, dr, tk + 1, os⟩) : wpAny (model prog w) A (setAttr (.ref x) (Str.ofString "_tail") v) Q E ⟨hp, gs, dr, tk, os⟩ :=
  sa_slot (p := 301) (i := 3) F X (inst_of F.head hdx) (by kernel_rfl) (by kernel_rfl) (by kernel_rfl) (by kernel_rfl) (by kernel_rfl) (by decide) (by rw [arr_set]) rfl h
theorem sa_tail_offset {Q : Unit → Shared → Prop} (F : Fx b L hp m ((x, IO dx sl) :: own)) (X : (KK w).In hp) (hdx : hp.get? dx = some emptyDict)
    (h : ∀ h', Fx b L h' m ((x, IO dx ((sl ++ List.replicate (4 + 1 - sl.length) none).set 4 (some v))) :: own) → Q () ⟨h', gs, dr, tk + 1, os⟩) : wpAny (model prog w) A (setAttr (.ref x) (Str.ofString "_tail_offset") v) Q E ⟨hp, gs, dr, tk, os⟩ :=
  sa_slot (p := 302) (i := 4) F X (inst_of F.head hdx) (by kernel_rfl) (by kernel_rfl) (by kernel_rfl) (by kernel_rfl) (by kernel_rfl) (by decide) (by rw [arr_set]) rfl h
end
local macro_rules | `(tactic| walk_at "glob") => do
  let F := Lean.mkIdent `F; let T := Lean.mkIdent `T
  `(tactic| first | (with_reducible refine nm_eq $F $T ?_ ?_ ?_; rotate_left; with_unfolding_all rfl; with_unfolding_all rfl) | (with_reducible refine nm_ge $F $T ?_ ?_ ?_; rotate_left; with_unfolding_all rfl; with_unfolding_all rfl) | (with_reducible refine nm_gt $F $T ?_ ?_ ?_; rotate_left; with_unfolding_all rfl; with_unfolding_all rfl) | (with_reducible refine nm_le $F $T ?_ ?_ ?_; rotate_left; with_unfolding_all rfl; with_unfolding_all rfl) | (with_reducible refine nm_lt $F $T ?_ ?_ ?_; rotate_left; with_unfolding_all rfl; with_unfolding_all rfl) | (with_reducible refine nm_wall $F $T ?_ ?_ ?_; rotate_left; with_unfolding_all rfl; with_unfolding_all rfl) | (with_reducible refine nm_bitcount $F $T ?_ ?_ ?_; rotate_left; with_unfolding_all rfl; with_unfolding_all rfl) | (with_reducible refine nm_BRANCH_FACTOR $F $T ?_ ?_ ?_; rotate_left; with_unfolding_all rfl; with_unfolding_all rfl) | (with_reducible refine nm_BIT_MASK $F $T ?_ ?_ ?_; rotate_left; with_unfolding_all rfl; with_unfolding_all rfl) | (with_reducible refine nm_SHIFT $F $T ?_ ?_ ?_; rotate_left; with_unfolding_all rfl; with_unfolding_all rfl) | (with_reducible refine nm_compare_pvector $F $T ?_ ?_ ?_; rotate_left; with_unfolding_all rfl; with_unfolding_all rfl) | (with_reducible refine nm_PythonPVector $F $T ?_ ?_ ?_; rotate_left; with_unfolding_all rfl; with_unfolding_all rfl) | (with_reducible refine nm_EMPTY_PVECTOR $F $T ?_ ?_ ?_; rotate_left; with_unfolding_all rfl; with_unfolding_all rfl) | (with_reducible refine nm_python_pvector $F $T ?_ ?_ ?_; rotate_left; with_unfolding_all rfl; with_unfolding_all rfl) | (with_reducible refine nm_law_changed $F $T ?_ ?_ ?_; rotate_left; with_unfolding_all rfl; with_unfolding_all rfl) | (with_reducible refine nm_law_order $F $T ?_ ?_ ?_; rotate_left; with_unfolding_all rfl; with_unfolding_all rfl) | (with_reducible refine nm_law_signs $F $T ?_ ?_ ?_; rotate_left; with_unfolding_all rfl; with_unfolding_all rfl) | (with_reducible refine nm_law_same $F $T ?_ ?_ ?_; rotate_left; with_unfolding_all rfl; with_unfolding_all rfl) | (with_reducible refine nm_law_asked $F $T ?_ ?_ ?_; rotate_left; with_unfolding_all rfl; with_unfolding_all rfl) | (with_reducible refine nm_len $F $T ?_ ?_ ?_; rotate_left; with_unfolding_all rfl; with_unfolding_all rfl) | (with_reducible refine nm_list $F $T ?_ ?_ ?_; rotate_left; with_unfolding_all rfl; with_unfolding_all rfl) | (with_reducible refine nm_range $F $T ?_ ?_ ?_; rotate_left; with_unfolding_all rfl; with_unfolding_all rfl) | (with_reducible refine nm_isinstance $F $T ?_ ?_ ?_; rotate_left; with_unfolding_all rfl; with_unfolding_all rfl) | (with_reducible refine nm_slice $F $T ?_ ?_ ?_; rotate_left; with_unfolding_all rfl; with_unfolding_all rfl) | (with_reducible refine nm_min $F $T ?_ ?_ ?_; rotate_left; with_unfolding_all rfl; with_unfolding_all rfl) | (with_reducible refine nm_max $F $T ?_ ?_ ?_; rotate_left; with_unfolding_all rfl; with_unfolding_all rfl) | (with_reducible refine nm_enumerate $F $T ?_ ?_ ?_; rotate_left; with_unfolding_all rfl; with_unfolding_all rfl) | (with_reducible refine nm_zip $F $T ?_ ?_ ?_; rotate_left; with_unfolding_all rfl; with_unfolding_all rfl) | (with_reducible refine nm_iter $F $T ?_ ?_ ?_; rotate_left; with_unfolding_all rfl; with_unfolding_all rfl) | (with_reducible refine nm_hasattr $F $T ?_ ?_ ?_; rotate_left; with_unfolding_all rfl; with_unfolding_all rfl) | (with_reducible refine nm_tuple $F $T ?_ ?_ ?_; rotate_left; with_unfolding_all rfl; with_unfolding_all rfl) | (with_reducible refine nm_super $F $T ?_ ?_ ?_; rotate_left; with_unfolding_all rfl; with_unfolding_all rfl) | (with_reducible refine nm_dict $F $T ?_ ?_ ?_; rotate_left; with_unfolding_all rfl; with_unfolding_all rfl) | (with_reducible refine nm_int $F $T ?_ ?_ ?_; rotate_left; with_unfolding_all rfl; with_unfolding_all rfl) | (with_reducible refine nm_ValueError $F $T ?_ ?_ ?_; rotate_left; with_unfolding_all rfl; with_unfolding_all rfl) | (with_reducible refine nm_IndexError $F $T ?_ ?_ ?_; rotate_left; with_unfolding_all rfl; with_unfolding_all rfl) | (with_reducible refine nm_TypeError $F $T ?_ ?_ ?_; rotate_left; with_unfolding_all rfl; with_unfolding_all rfl))
local macro_rules | `(tactic| walk_at "room") => `(tactic| (simp only [recursionLimit, Around.deeper, Around.in1, Around.mark] at *; omega))
local macro_rules | `(tactic| walk_at "rf") => `(tactic| (rotate_left; with_unfolding_all rfl))
local macro_rules | `(tactic| walk_at "rf2") => `(tactic| (rotate_left; with_unfolding_all rfl; with_unfolding_all rfl))
local macro_rules | `(tactic| walk_at "look") => `(tactic| first
  | with_unfolding_all rfl
  | ((try dsimp only); repeat' (first | assumption | exact look_hit rfl | refine look_miss (by decide) ?_)))
local macro_rules | `(tactic| walk_at "loc") => do
  let F := Lean.mkIdent `F
  `(tactic| first
    | ((with_reducible show wpAny _ _ (eval (Expr.Name _ _) _) _ _ _); refine n_loc $F (by walk_at "look") ?_)
    | ((with_reducible show wpAny _ _ (loadName _ _) _ _ _); refine l_loc $F (by walk_at "look") ?_))
local macro_rules | `(tactic| walk_at "st") => do
  let F := Lean.mkIdent `F
  let h := Lean.mkIdent `hq
  `(tactic| ((with_reducible show wpAny _ _ (storeName _ _ _) _ _ _); refine st_loc $F ?_; clear $F; intro $h $F))
local macro_rules | `(tactic| walk_at "ga") => do
  let F := Lean.mkIdent `F; let T := Lean.mkIdent `T; let hx := Lean.mkIdent `hx; let hdx := Lean.mkIdent `hdx
  `(tactic| ((with_reducible show wpAny _ _ (getAttr _ _ _) _ _ _); first
    | with_reducible refine ga_count (Tp.up $T (Fx.keep $F)).X (Fx.keep $F _ _ $hx) (Fx.keep $F _ _ $hdx) rfl rfl ?_
    | with_reducible refine ga_root (Tp.up $T (Fx.keep $F)).X (Fx.keep $F _ _ $hx) (Fx.keep $F _ _ $hdx) rfl rfl ?_
    | with_reducible refine ga_shift (Tp.up $T (Fx.keep $F)).X (Fx.keep $F _ _ $hx) (Fx.keep $F _ _ $hdx) rfl rfl ?_
    | with_reducible refine ga_tail (Tp.up $T (Fx.keep $F)).X (Fx.keep $F _ _ $hx) (Fx.keep $F _ _ $hdx) rfl rfl ?_
    | with_reducible refine ga_tail_offset (Tp.up $T (Fx.keep $F)).X (Fx.keep $F _ _ $hx) (Fx.keep $F _ _ $hdx) rfl rfl ?_
    | with_reducible refine ga_count (Tp.up $T (Fx.keep $F)).X (Fx.head $F) (Fx.keep $F _ _ $hdx) rfl rfl ?_
    | with_reducible refine ga_root (Tp.up $T (Fx.keep $F)).X (Fx.head $F) (Fx.keep $F _ _ $hdx) rfl rfl ?_
    | with_reducible refine ga_shift (Tp.up $T (Fx.keep $F)).X (Fx.head $F) (Fx.keep $F _ _ $hdx) rfl rfl ?_
    | with_reducible refine ga_tail (Tp.up $T (Fx.keep $F)).X (Fx.head $F) (Fx.keep $F _ _ $hdx) rfl rfl ?_
    | with_reducible refine ga_tail_offset (Tp.up $T (Fx.keep $F)).X (Fx.head $F) (Fx.keep $F _ _ $hdx) rfl rfl ?_))
local macro_rules | `(tactic| walk_at "e") => `(tactic| first
  | with_reducible refine s_cons ?_
  | with_reducible refine wpAny_execs_nil ?_
  | with_reducible refine nx_next ?_
  | with_reducible refine nx_ret ?_
  | with_reducible refine wpAny_If ?_
  | (with_reducible refine wpAny_Assign_Name ?_ ?_; walk_at "rf")
  | (with_reducible refine plainObj_wpAny_Assign_Attribute ?_ ?_; walk_at "rf")
  | (with_reducible refine Assign_Tuple ?_ ?_ ?_; walk_at "rf2")
  | with_reducible refine wpAny_assign_Name ?_
  | with_reducible refine assign_attr ?_
  | with_reducible refine wpAny_AugAssign_AttributeAny ?_
  | with_reducible refine wpAny_AugAssign_Name ?_
  | with_reducible refine wpAny_Return_some ?_
  | (with_reducible refine wpAny_Expr_any ?_ ?_ ?_; walk_at "rf2")
  | with_reducible refine wpAny_BinOp ?_
  | with_reducible refine x_int ?_
  | with_reducible refine List_ ?_
  | with_reducible refine Tuple_ ?_
  | with_reducible refine wpAny_Constant_none ?_
  | with_reducible refine wpAny_Constant_bool ?_
  | (with_reducible refine' MethodCall_ ?_ ?he; (case he => with_unfolding_all rfl))
  | (with_reducible refine Call_ ?_ ?_; walk_at "rf")
  | with_reducible refine args_nil ?_
  | (with_reducible refine args_cons ?_ ?_; walk_at "rf")
  | (with_reducible refine callWith_method1 ?_ ?_ ?_; walk_at "rf2")
  | (with_reducible refine callWith_method0 ?_)
  | (with_reducible refine PyProof.Rows.callWith_type1 ?_ ?_ ?_; walk_at "rf2")
  | (with_reducible refine PyProof.Rows.callWith_builtin1 ?_ ?_ ?_; walk_at "rf2")
  | (with_reducible refine Attribute_any_ ?_ ?_; walk_at "rf")
  | (with_reducible refine wpAny_isTrue_Compare1 ?_ ?_; walk_at "rf")
  | (with_reducible refine wpAny_Compare1 ?_ ?_; walk_at "rf")
  | (with_reducible refine isTrue_chain ?_ ?_; walk_at "rf")
  | (with_reducible refine Compare_chain ?_ ?_; walk_at "rf")
  | ((with_reducible show wpAny _ _ (testChain _ _ _ _) _ _ _); first | refine test_link ?_ | refine test_last ?_)
  | ((with_reducible show wpAny _ _ (compareChain _ _ _ _) _ _ _); first | refine chain_link ?_ | refine chain_last ?_)
  | with_reducible refine isTrue_and_nil ?_
  | with_reducible refine isTrue_or_nil ?_
  | with_reducible refine isTrue_and ?_
  | with_reducible refine isTrue_or ?_
  | with_reducible refine isTrue_not ?_
  | with_reducible refine is_none_none ?_
  | with_reducible refine is_int_none ?_
  | with_reducible refine is_ref_none ?_
  | with_reducible refine isnot_none_none ?_
  | with_reducible refine isnot_int_none ?_
  | with_reducible refine isnot_ref_none ?_
  | (with_reducible refine isTrue_plain ?_ ?_; walk_at "rf")
  | with_reducible refine wpAny_truthy_bool ?_
  | (with_reducible refine sub_slice ?_ ?_; (rotate_left; (intro _ _; with_unfolding_all rfl)))
  | with_reducible refine Subscript_ ?_
  | with_reducible refine ep_none ?_
  | with_reducible refine ep_some ?_
  | with_reducible refine x_add ?_
  | with_reducible refine x_sub ?_
  | with_reducible refine x_isub ?_
  | with_reducible refine x_iadd ?_
  | with_reducible refine x_and ?_
  | with_reducible refine wpAny_UnaryOp ?_
  | with_reducible refine x_neg ?_
  | with_reducible refine truthy_int ?_
  | with_reducible refine lt_int ?_
  | with_reducible refine gt_int ?_
  | with_reducible refine eq_int ?_
  | with_reducible refine ne_int ?_
  | with_reducible refine le_int ?_
  | with_reducible refine ge_int ?_
  | walk_at "loc"
  | walk_at "ga"
  | walk_at "glob"
  | walk_at "st"
  | fail "e: no step")
local macro_rules | `(tactic| walk_at "r") => `(tactic| repeat walk_at "e")
abbrev VO (dx : Addr) (n : Int) (root : Addr) (sh : Int) (tail : Addr) (toff : Int) (t1 t2 t3 : Tok) : Obj :=
  IO dx [some (.int n t1), some (.ref root), some (.int sh t2), some (.ref tail), some (.int toff t3)]
/-- a tree of lists over h, of a depth, and what its leaves hold -/
def TreeAt (h : Heap) : Nat → Addr → List Value → Prop
  | 0, a, xs => ∃ n, h.get? a = some (LO xs n)
  | k + 1, a, xs => ∃ n, ∃ cs : List Addr, ∃ yss : List (List Value), h.get? a = some (LO (cs.map Value.ref) n) ∧ cs.length = yss.length ∧ (∀ (i : Nat) c ys, cs[i]? = some c → yss[i]? = some ys → TreeAt h k c ys) ∧ xs = yss.flatten
theorem TreeAt.up {h h' : Heap} (e : Ext h h') : ∀ {k : Nat} {a : Addr} {xs : List Value}, TreeAt h k a xs → TreeAt h' k a xs
  | 0, _, _, ⟨n, g⟩ => ⟨n, e _ _ g⟩
  | _ + 1, _, _, ⟨n, cs, yss, g, hl, hc, hx⟩ => ⟨n, cs, yss, e _ _ g, hl, fun i c ys h1 h2 => (hc i c ys h1 h2).up e, hx⟩
theorem ext_hide1 {g hp : Heap} {tl : Addr} (he : Ext g hp) (hg : g.get? tl = none) : Ext g (hideAll hp [tl]) :=
  fun c oc e => hideAll_get _ (he c oc e) (fun q => by rw [List.mem_singleton.mp q, hg] at e; cases e)

section
variable {prog : Program} {w : World} {mg mb : Str → Option Value} {x dx : Addr} {sl : List (Option Value)}
set_option maxHeartbeats 4000000 in
theorem fill_spec : ∀ (k : Nat) {A : Around} {E : Value → Shared → Prop} {hp : Heap} {gs : Array GenState} {dr : Drawn} {tk : Nat} {os : OsState} {Q : Value → Shared → Prop} {g : Heap} {a tl : Addr} {xs items : List Value} {n : Nat} {t : Tok} {sh : Int} (T : Tp (KK w) mg mb g) (hx : g.get? x = some (IO dx sl)) (hdx : g.get? dx = some emptyDict)
    (Tr : TreeAt g k a xs) (he : Ext g hp) (hg : g.get? tl = none) (htl : hp.get? tl = some (LO items n)) (hsh : sh = 5 * k) (hroom : A.depth + k < 900) (hh : A.handled = none) (hz : items.length + xs.length ≤ 1000000)
    (h : ∀ h' tk n', Ext g h' → h'.get? tl = some (LO (items ++ xs) n') → Q .none ⟨h', gs, dr, tk, os⟩),
    wpAny (model prog w) A (call (.ref m_fill_list) [.ref x, .ref a, .int sh t, .ref tl]) Q E ⟨hp, gs, dr, tk, os⟩ := by
  intro k
  induction k with
  | zero =>
    intro A E hp gs dr tk os Q g a tl xs items n t sh T hx hdx Tr he hg htl hsh hroom hh hz h
    have T0 := T.up he
    refine wpAny_call ?_
    refine call_fx [(tl, LO items n)] (binds := [(Str.ofString "self", .ref x), (Str.ofString "node", .ref a), (Str.ofString "shift", .int sh t), (Str.ofString "the_list", .ref tl)]) (by walk_at "room") (T0.X _ _ (lk m_fill_list (by kernel_rfl))) (by with_unfolding_all rfl) T0.nolimit (codeRec_of T0.X (by kernel_rfl)) (BindsTo.of_eq (by with_unfolding_all rfl)) (locs (by with_unfolding_all rfl)) (fun p hp => by rw [List.mem_singleton.mp hp]; exact htl) (by simp) ?_ (by decide +kernel)
    intro L h₁ tk F
    have eb := ext_hide1 he hg
    have T := T.up eb
    obtain ⟨na, ga⟩ := Tr
    subst hsh
    walk_at "r"
    rw [if_neg (by decide)]
    walk_at "r"
    refine gm_list F.head PySem.F.slot_list_extend PySem.F.type_list_extend ?_
    walk_at "r"
    refine lc_extend F (F.keep _ _ (eb _ _ ga)) hz ?_
    clear F
    intro hq n' F
    walk_at "r"
    exact h _ _ _ (eb.trans F.keep) F.head
  | succ k ih =>
    intro A E hp gs dr tk os Q g a tl xs items n t sh T hx hdx Tr he hg htl hsh hroom hh hz h
    have T0 := T.up he
    refine wpAny_call ?_
    refine call_fx [(tl, LO items n)] (binds := [(Str.ofString "self", .ref x), (Str.ofString "node", .ref a), (Str.ofString "shift", .int sh t), (Str.ofString "the_list", .ref tl)]) (by walk_at "room") (T0.X _ _ (lk m_fill_list (by kernel_rfl))) (by with_unfolding_all rfl) T0.nolimit (codeRec_of T0.X (by kernel_rfl)) (BindsTo.of_eq (by with_unfolding_all rfl)) (locs (by with_unfolding_all rfl)) (fun p hp => by rw [List.mem_singleton.mp hp]; exact htl) (by simp) ?_ (by decide +kernel)
    intro L h₁ tk F
    have eb := ext_hide1 he hg
    have T := T.up eb
    obtain ⟨na, cs, yss, ga, hlen, hkids, rfl⟩ := Tr
    walk_at "r"
    rw [if_pos (by subst hsh; simp; omega)]
    walk_at "r"
    refine wpAny_For ?_
    walk_at "r"
    refine for_list (items := cs.map Value.ref) F (eb _ _ ga) hh (fun i b' m' own' => m' (Str.ofString "self") = some (.ref x) ∧ m' (Str.ofString "the_list") = some (.ref tl) ∧ (∃ t', m' (Str.ofString "shift") = some (.int (sh - 5) t')) ∧ ∃ n', own' = [(tl, LO (items ++ (yss.take i).flatten) n')]) ⟨rfl, rfl, ⟨_, rfl⟩, n, by simp⟩ ?_ ?_
    · rintro i v b₁ m₁ own₁ h₁ tk₁ it E' hi hv ⟨ms, mt, ⟨t', msh⟩, n', rfl⟩ e₁ F
      have T := T.up e₁
      have ex := eb.trans e₁
      obtain ⟨c, hc, rfl⟩ : ∃ c, cs[i]? = some c ∧ v = .ref c := by
        rw [List.getElem?_map] at hv
        obtain ⟨c, hc, e⟩ := Option.map_eq_some_iff.mp hv
        exact ⟨c, hc, e.symm⟩
      rw [List.length_map] at hi
      obtain ⟨ys, hys⟩ : ∃ ys, yss[i]? = some ys := ⟨_, List.getElem?_eq_getElem (by omega)⟩
      walk_at "r"
      refine gm_fill_list (T.up F.keep).X (F.keep _ _ (ex _ _ hx)) (F.keep _ _ (ex _ _ hdx)) ?_
      refine cw_fn T (by kernel_rfl) ?_
      walk_at "r"
      refine ⟨F.keep, ?_⟩
      have F : Fx b₁ L h₁ _ ((tl, LO (items ++ (yss.take i).flatten) n') :: it) := F
      have eh := ex.trans F.hid
      have hlen' : ((yss.take (i + 1)).flatten).length ≤ yss.flatten.length := by
        conv => rhs; rw [← List.take_append_drop (i + 1) yss]
        rw [List.flatten_append, List.length_append]; omega
      have hfl : (yss.take (i + 1)).flatten = (yss.take i).flatten ++ ys := by
        rw [List.take_add_one, hys, List.flatten_append]; simp
      rw [hfl, List.length_append] at hlen'
      refine ih (g := h₁.hide tl) (T.up F.hid) (eh _ _ hx) (eh _ _ hdx) ((hkids i c ys hc hys).up eh) (hide_ext _ _) (Heap.hide_self _ _) F.head (by omega) (by walk_at "room") hh (by rw [List.length_append]; omega) ?_
      intro h₂ tk₂ n₂ e₂ ht₂
      have F := F.back1 e₂ ht₂
      walk_at "r"
      refine ⟨h₂, tk₂, b₁, (fun y => if y = Str.ofString "n" then some (Value.ref c) else m₁ y), [(tl, LO (items ++ (yss.take (i + 1)).flatten) n₂)], rfl, .rfl', ?_, by walk_at "look", by walk_at "look", ⟨t', by walk_at "look"⟩, n₂, rfl⟩
      rw [hfl, ← List.append_assoc]
      exact F
    · rintro h' tk' b' m' own' ⟨ms, mt, msh, n', rfl⟩ e' F
      walk_at "r"
      rw [List.length_map, hlen, List.take_length] at F
      exact h _ _ _ ((eb.trans e').trans F.keep) F.head

set_option maxHeartbeats 4000000 in
theorem tolist_spec {A : Around} {E : Value → Shared → Prop} {hp : Heap} {gs : Array GenState} {dr : Drawn} {tk : Nat} {os : OsState} {Q : Value → Shared → Prop} {k : Nat} {root tail : Addr} {ys zs : List Value} {tn : Nat} {n toff sh : Int} {t1 t2 t3 : Tok} (T : Tp (KK w) mg mb hp)
    (hx : hp.get? x = some (VO dx n root sh tail toff t1 t2 t3)) (hdx : hp.get? dx = some emptyDict) (hsh : sh = 5 * k) (Tr : TreeAt hp k root ys) (ht : hp.get? tail = some (LO zs tn)) (hroom : A.depth + k < 800) (hh : A.handled = none) (hz : ys.length + zs.length ≤ 1000000)
    (h : ∀ D c h' tk, Ext hp h' → hp.get? D = none → h'.get? D = some (LO (ys ++ zs) c) → Q (.ref D) ⟨h', gs, dr, tk, os⟩) :
    wpAny (model prog w) A (call (.ref m_tolist) [.ref x]) Q E ⟨hp, gs, dr, tk, os⟩ := by
  refine wpAny_call ?_
  refine call_fx [] (binds := [(Str.ofString "self", .ref x)]) (by walk_at "room") (T.X _ _ (lk m_tolist (by kernel_rfl))) (by with_unfolding_all rfl) T.nolimit (codeRec_of T.X (by kernel_rfl)) (BindsTo.of_eq (by with_unfolding_all rfl)) (locs (by with_unfolding_all rfl)) (fun _ q => nomatch q) List.nodup_nil ?_ (by decide +kernel)
  intro L h₁ tk F
  have F : Fx hp L h₁ _ [] := F
  walk_at "r"
  refine nl F ?_
  clear F; intro D hq F _
  walk_at "r"
  refine gm_fill_list (T.up F.keep).X (F.keep _ _ hx) (F.keep _ _ hdx) ?_
  refine cw_fn T (by kernel_rfl) ?_
  walk_at "r"
  refine ⟨F.keep, ?_⟩
  refine fill_spec k (g := Heap.hide _ D) (T.up F.hid) (F.hid _ _ hx) (F.hid _ _ hdx) (Tr.up F.hid) (hide_ext _ _) (Heap.hide_self _ _) F.head hsh (by walk_at "room") hh (by simp; omega) ?_
  intro h₂ tk₂ n₂ e₂ ht₂
  have F := F.back1 e₂ ht₂
  walk_at "r"
  refine gm_list F.head PySem.F.slot_list_extend PySem.F.type_list_extend ?_
  walk_at "r"
  refine lc_extend F (F.keep _ _ ht) (by simp; omega) ?_
  clear F; intro hq n' F
  walk_at "r"
  exact h _ _ _ _ F.keep (F.out _ (.head _)) (by simpa using F.head)
end
theorem cls_at (w : World) : ∃ oc od cd sl, (KK w).lookup aC = some ⟨oc, od, .cls cd, sl⟩ ∧ cd.abstract = false ∧ cd.hasDel = false ∧ cd.mro.isEmpty = false := ⟨_, _, _, _, by with_unfolding_all rfl, by with_unfolding_all rfl, by with_unfolding_all rfl, by with_unfolding_all rfl⟩
section
variable {prog : Program} {w : World} {A : Around} {E : Value → Shared → Prop} {hp : Heap} {gs : Array GenState} {dr : Drawn} {tk : Nat} {os : OsState} {mg mb : Str → Option Value}
theorem obj_new {Q : Value → Shared → Prop} (X : (KK w).In hp) (hq : Q (.ref (hp.objs.size + 1)) ⟨(hp.push emptyDict).push (IO hp.objs.size []), gs, dr, tk, os⟩) :
    wpAny (model prog w) A (call (.builtin "object.__new__") [.ref aC]) Q E ⟨hp, gs, dr, tk, os⟩ := by
  have F := PySem.F.objNew
  refine wpAny_call ?_
  refine codeAny_call_builtin_code (Code.quiet_builtin _ F.quiet) ?_
  simp only [checkBuiltinCall, F.kind, F.split, F.row]
  obtain ⟨oc, od, cd, sl, hC, e1, e2, e4⟩ := cls_at w
  have hC := X _ _ hC
  have typ : Looks (model prog w) hp (isInstance (.ref aC) (.type "type")) true := looks_instIn X (by kernel_rfl)
  have top : Looks (model prog w) hp (isSubtype (.ref aC) (.type "object")) true := looks_subIn X (by kernel_rfl)
  have here : Looks (model prog w) hp (Bind.madeHere "object.__new__" (.ref aC)) () := Looks.of_peek X (by kernel_rfl)
  have base : Looks (model prog w) hp (Bind.staticBase (.ref aC)) (.type "object") := Looks.of_peek X (by kernel_rfl)
  have made : Looks (model prog w) hp (Bind.madeBy (.ref aC)) none := Looks.of_peek X (by kernel_rfl)
  have made2 : Looks (model prog w) hp (Bind.madeBy (.type "object")) (some "object.__new__") := Looks.of_peek X (by kernel_rfl)
  have args : Bind.checkArgs "object.__new__" ⟨.hand, "object.__new__", "__new__", .cls, []⟩ ⟨[.ref aC], []⟩ = pure () := by kernel_rfl
  rw [args]
  repeat (first | simp only [bne_self_eq_false, Bool.false_eq_true, if_false] | lk)
  refine codeAny_builtin F.entry ?_
  unfold Builtin.«object.__new__»
  have fin : ∀ A', wpAny (model prog w) A' (do
      let d ← if typeHasDict (.ref aC) then some <$> alloc { cls := .type "dict", data := .dict #[] } else pure none
      ret (← newObj (.ref aC) .plain d)) (fun fin s' => match fin with | .done f => (match (Except.ok f : Result) with | .ok (.ret v) => Q v s' | .ok _ => False | .error e => E e s') | .again c' => c'.quiet = true ∧ codeAny (model prog w) A c' (fun r s' => match r with | .ok (.ret v) => Q v s' | .ok _ => False | .error e => E e s') s') (fun e s' => E e s') ⟨hp, gs, dr, tk, os⟩ := by
    intro A'
    show wpAny _ _ ((alloc emptyDict >>= fun x => pure (some x)) >>= _) _ _ _
    refine wpAny_bind (wpAny_bind (wpAny_alloc (wpAny_pure (wpAny_bind ?_))))
    show wpAny _ _ (newObjAsIs _ _ _) _ _ _
    unfold newObjAsIs classHasDel
    refine wpAny_bind (wpAny_alloc (wpAny_bind (wpAny_bind (wpAny_load (Heap.get?_push_of_some _ (Heap.get?_push_of_some _ hC)) (wpAny_pure ?_)))))
    rw [e2]
    refine wpAny_pure (wpAny_pure ?_)
    dsimp only
    rw [Heap.size_push]
    exact hq
  repeat (first | simp only [e1, Bool.false_eq_true, if_false] | exact fin _ | lk)

abbrev SO : Obj := { cls := .type "super", dict := none, data := .fields #[.ref aC, .ref aC, .ref aC], slots := #[] }
theorem super_call {Q : Value → Shared → Prop} (X : (KK w).In hp) (hq : ∀ h', h'.get? hp.objs.size = some SO → Ext hp h' → Q (.ref hp.objs.size) ⟨h', gs, dr, tk, os⟩) :
    wpAny (model prog w) A (call (.type "super") [.ref aC, .ref aC]) Q E ⟨hp, gs, dr, tk, os⟩ := by
  obtain ⟨oc, od, cd, sl, hC, e1, e2, e4⟩ := cls_at w
  have hD := X _ _ hC
  have hsub : Looks (model prog w) hp (isSubtype (.ref aC) (.ref aC)) true := looks_subIn X (by kernel_rfl)
  refine ks_callType_codesW (Q₁ := fun obj s₁ => obj = .ref hp.objs.size ∧ s₁ = ⟨hp.push { cls := .type "super", data := .fields #[.none, .none, .none] }, gs, dr, tk, os⟩) F.ks_called_super (ks_wpAny_checkTypeCall_super hD rfl) F.ks_entry_super_init
    (ks_code_super_new _ _ ⟨rfl, rfl⟩) fun obj s₁ h₁ => ?_
  obtain ⟨rfl, rfl⟩ := h₁
  have up : Ext hp (hp.push { cls := .type "super", data := .fields #[.none, .none, .none] }) := .of_push _
  have hso : (hp.push { cls := .type "super", data := .fields #[.none, .none, .none] }).get? hp.objs.size = some { cls := .type "super", dict := none, data := .fields #[.none, .none, .none], slots := #[] } := Heap.get?_push_at rfl rfl
  have hD' := up _ _ hD
  have hsub' := hsub.keeps up
  refine ⟨⟨_, hso, rfl⟩, F.ks_initArgs_super _ _ _, ?_⟩
  unfold Builtin.«super.__init__» noKeywords
  repeat (first | (with_reducible refine ks_wpAny_isType_cls hD' rfl ?_) | (with_reducible refine Looks.at hsub' ?_) | (with_reducible refine ks_wpAny_super_set3 hso ?_) | wp_step)
  all_goals (intro h' e k; exact ⟨rfl, hq h' e fun y o ey => k y o (Nat.ne_of_lt (Heap.lt_size ey)) (up y o ey)⟩)


theorem super_ga {C so : Addr} {K : Frag} {name : Str} {t' : Tok} {vf : Value} {l₀ l : List Value} {Q : Fin → Shared → Prop} (X : K.In hp)
    (hso : hp.get? so = some { cls := .type "super", dict := none, data := .fields #[.ref C, .ref C, .ref C], slots := #[] }) (hno : Looks (model prog w) hp (opaqueClassAbove (.ref C)) none)
    (hC : Looks (model prog w) hp (mroOf (.ref C)) l₀) (hl : (l₀.dropWhile (· != .ref C)).drop 1 = l) (hf : alongIn K name l = some (some vf)) (hty : typeOf vf = pure (.type "builtin_function_or_method")) (hhd : handedOut vf = pure vf) (hn : (name == ("__class__" : Str)) = false)
    (hq : Q (.done (.ret vf)) ⟨hp, gs, dr, tk, os⟩) :
    wpAny (model prog w) A (Builtin.«super.__getattribute__» ⟨[.ref so, .str name t'], []⟩) Q E ⟨hp, gs, dr, tk, os⟩ := by
  have hget : typeLookup (.type "builtin_function_or_method") "__get__" = pure none := by rw [typeLookup_type, builtinLookup_eq_fast]; kernel_rfl
  have hdt : ({ cls := .type "super", dict := none, data := .fields #[.ref C, .ref C, .ref C], slots := #[] } : Obj).data = .fields #[.ref C, .ref C, .ref C] := rfl
  have f0 : (#[.ref C, .ref C, .ref C] : Array Value)[0]? = some (.ref C) := rfl
  have f1 : (#[.ref C, .ref C, .ref C] : Array Value)[1]? = some (.ref C) := rfl
  have f2 : (#[.ref C, .ref C, .ref C] : Array Value)[2]? = some (.ref C) := rfl
  unfold Builtin.«super.__getattribute__»
  repeat (first
    | (with_reducible refine wpAny_field hso hdt f0 ?_) | (with_reducible refine wpAny_field hso hdt f1 ?_) | (with_reducible refine wpAny_field hso hdt f2 ?_)
    | (with_reducible refine ks_wpAny_notOpaque hno ?_)
    | (with_reducible refine Looks.at hC ?_; rw [hl])
    | ((with_reducible show wpAny _ _ (forIn _ _ _) _ _ _); refine ks_forIn_along X (fun _ _ => rfl) rfl ?_ hf)
    | (with_reducible refine wpAny_of_eq hty ?_)
    | (with_reducible refine wpAny_of_eq hget ?_)
    | (with_reducible refine wpAny_of_eq hhd ?_)
    | (with_reducible refine ⟨_, rfl, ?_⟩)
    | (simp only [hn, Bool.or_false, Bool.false_eq_true, if_false])
    | wp_step
    | dsimp only)
  all_goals exact hq

theorem super_new {so : Addr} {pl : Sem Bool} {Q : Value × List Value → Shared → Prop} (X : (KK w).In hp) (hso : hp.get? so = some SO) (hq : Q (.builtin "object.__new__", []) ⟨hp, gs, dr, tk + 1, os⟩) :
    wpAny (model prog w) A (getMethod (.ref so) (Str.ofString "__new__") pl) Q E ⟨hp, gs, dr, tk, os⟩ := by
  have hlk := F.ks_slot_super_ga.lookup
  have hcan := F.ks_canon_super_ga
  have hT : ∀ t', (⟨hp, gs, dr, t', os⟩ : Shared).TypeIs (.ref so) "super" := fun _ => ⟨_, hso, rfl⟩
  unfold getMethod
  refine wpAny_bind (wpAny_specialOf (hT _) hlk ?_)
  show wpAny _ _ (if (Manifest.canonical "super.__getattribute__" != "object.__getattribute__") = true then _ else _) _ _ _
  rw [if_pos hcan]
  unfold getAttr getAttrBy
  refine wpAny_bind (wpAny_bind (wpAny_mkText (wpAny_holding (wpAny_bind (wpAny_typeOf (hT _) (wpAny_bind (wpAny_of_eq hlk ?_)))))))
  show wpAny _ _ (getAttrByItsOwn (.ref so) (.str (Str.ofString "__new__") tk) (.type "super") (.builtin "super.__getattribute__") true false) _ _ _
  unfold getAttrByItsOwn hookBefore callGetattribute boundAndCalled
  refine wpAny_bind (wpAny_of_eq (show (if onTheHeap (.type "super") then typeLookup (.type "super") "__getattr__" else pure none) = pure none from rfl) ?_)
  refine wpAny_bind (wpAny_attempt (wpAny_holding ?_))
  show wpAny _ _ (bindSpecial (.builtin "super.__getattribute__") (.ref so) >>= _) _ _ _
  refine wpAny_bind (wpAny_of_eq (F.ks_slot_super_ga.bind _) ?_)
  refine wpAny_mono (Q := fun v s' => v = .builtin "object.__new__" ∧ s' = ⟨hp, gs, dr, tk + 1, os⟩) (E := fun _ _ => False)
    (wpAny_call_entry F.ks_slot_super_ga (hT _) F.ks_entry_super_ga (super_ga (l := [.type "object"]) X hso (Looks.of_peek X (by kernel_rfl)) (Looks.of_peek X (r := [.ref aC, .type "object"]) (by kernel_rfl)) (by decide) (by kernel_rfl) (by show builtinType _ = _; rw [builtinType_eq_fast]; kernel_rfl) (handedOut_of (by decide +kernel)) (by decide) ⟨_, rfl, rfl, rfl⟩) (F.ks_gaArgs_super _ _)) (fun v s' hv => ?_) fun _ _ z => z.elim
  obtain ⟨rfl, rfl⟩ := hv
  exact wpAny_pure (wpAny_pure hq)
end
section
variable {prog : Program} {w : World} {A : Around} {E : Value → Shared → Prop} {hp : Heap} {gs : Array GenState} {dr : Drawn} {tk : Nat} {os : OsState} {mg mb : Str → Option Value}
set_option maxHeartbeats 4000000 in
theorem new_spec {Q : Value → Shared → Prop} {n sh : Int} {root tail : Addr} {t1 t2 : Tok} {zs : List Value} {tn : Nat} (T : Tp (KK w) mg mb hp) (ht : hp.get? tail = some (LO zs tn)) (hz : zs.length ≤ 1000000) (hroom : A.depth < 800)
    (h : ∀ x dx h' tk t3, Ext hp h' → hp.get? x = none → hp.get? dx = none → x ≠ dx → h'.get? dx = some emptyDict → h'.get? x = some (VO dx n root sh tail (n - zs.length) t1 t2 t3) → Q (.ref x) ⟨h', gs, dr, tk, os⟩) :
    wpAny (model prog w) A (call (.ref m_dunder_new) [.ref aC, .int n t1, .int sh t2, .ref root, .ref tail]) Q E ⟨hp, gs, dr, tk, os⟩ := by
  refine wpAny_call ?_
  refine call_fx [] (binds := [(Str.ofString "cls", .ref aC), (Str.ofString "count", .int n t1), (Str.ofString "shift", .int sh t2), (Str.ofString "root", .ref root), (Str.ofString "tail", .ref tail)]) (by walk_at "room") (T.X _ _ (lk m_dunder_new (by kernel_rfl))) (by with_unfolding_all rfl) T.nolimit (codeRec_of T.X (by kernel_rfl)) (BindsTo.of_eq (by with_unfolding_all rfl)) (locs (by with_unfolding_all rfl)) (fun _ q => nomatch q) List.nodup_nil ?_ (by decide +kernel)
  intro L h₁ tk F
  have F : Fx hp L h₁ _ [] := F
  walk_at "r"
  refine super_call (T.up F.keep).X ?_
  intro h₂ hso e₂
  have F := F.ext e₂
  refine super_new (T.up F.keep).X hso ?_
  walk_at "r"
  refine obj_new (T.up F.keep).X ?_
  have F := (F.push emptyDict).push (IO h₂.objs.size [])
  rw [Heap.size_push] at F
  obtain ⟨b', eb, F', kb, _⟩ := F.freeze1
  have hdx : b'.get? h₂.objs.size = some emptyDict := kb (h₂.objs.size, emptyDict) (by simp)
  have hxn : hp.get? (h₂.objs.size + 1) = none := F.out _ (.head _)
  have hdn : hp.get? h₂.objs.size = none := F.out (h₂.objs.size, emptyDict) (by simp)
  have hne : h₂.objs.size + 1 ≠ h₂.objs.size := Nat.succ_ne_self _
  clear F
  have F := F'; clear F'
  have T := T.up eb
  generalize h₂.objs.size + 1 = x at *
  generalize h₂.objs.size = dx at *
  walk_at "r"
  refine sa_count F (T.up F.keep).X (F.keep _ _ hdx) ?_
  clear F; intro hq F
  walk_at "r"
  refine sa_shift F (T.up F.keep).X (F.keep _ _ hdx) ?_
  clear F; intro hq F
  walk_at "r"
  refine sa_root F (T.up F.keep).X (F.keep _ _ hdx) ?_
  clear F; intro hq F
  walk_at "r"
  refine sa_tail F (T.up F.keep).X (F.keep _ _ hdx) ?_
  clear F; intro hq F
  walk_at "r"
  refine lc_len (F.keep _ _ (eb _ _ ht)) hz ?_
  intro t4 tk4
  walk_at "r"
  refine sa_tail_offset F (T.up F.keep).X (F.keep _ _ hdx) ?_
  clear F; intro hq F
  walk_at "r"
  have hfin := F.head
  exact h x dx _ _ _ (eb.trans F.keep) hxn hdn hne (F.keep _ _ hdx) hfin
end
section
variable {prog : Program} {w : World} {A : Around} {E : Value → Shared → Prop} {hp : Heap} {gs : Array GenState} {dr : Drawn} {tk : Nat} {os : OsState} {mg mb : Str → Option Value}
theorem init_call {x dx : Addr} {sl : List (Option Value)} {rest : List Value} {Q : Value → Shared → Prop} (X : (KK w).In hp) (hx : hp.get? x = some (IO dx sl)) (hdx : hp.get? dx = some emptyDict) (hargs : argsOk "object.__init__" ⟨.ref x :: rest, []⟩) (h : Q .none ⟨hp, gs, dr, tk, os⟩) :
    wpAny (model prog w) A (call (.builtin "object.__init__") (.ref x :: rest)) Q E ⟨hp, gs, dr, tk, os⟩ := by
  have I := inst_of hx hdx
  have L0 := I.type (M := model prog w)
  have t2 : Looks (model prog w) hp (isInstance (.ref x) (.type "object")) true := L0.andThen (looks_subIn X (by kernel_rfl))
  have made : Looks (model prog w) hp (Bind.madeBy (.ref aC)) none := Looks.of_peek X (by kernel_rfl)
  have li : Looks (model prog w) hp (typeLookup (.ref aC) "__init__") (some (.builtin "object.__init__")) := looks_findIn X (by kernel_rfl)
  refine wpAny_call ?_
  refine codeAny_call_builtin oi_plain entry_oi (@check_slot (model prog w) _ _ _ "object.__init__" "object" "__init__" (.ref x) rest [] _ oi_kind oi_split t2 hargs ?_)
  unfold Builtin.«object.__init__»
  cases rest with
  | nil => exact wpAny_pure h
  | cons a r =>
    repeat (first | simp only [bne_self_eq_false, Bool.false_eq_true, if_false] | lk)
    exact h

theorem ga_new {expr : Bool} {Q : Value → Shared → Prop} (X : (KK w).In hp) (h : Q (.ref m_dunder_new) ⟨hp, gs, dr, tk + 1, os⟩) : wpAny (model prog w) A (getAttr (.ref aC) (Str.ofString "__new__") expr) Q E ⟨hp, gs, dr, tk, os⟩ :=
  cls_bind (mc := .type "type") X (by kernel_rfl) (g := .builtin "staticmethod.__get__") (a := .ref sm_new) (obj := .none) (tp := .ref aC) (by kernel_rfl) (wpAny_call (sm_get (s := ⟨hp, gs, dr, tk + 1, os⟩) (f := .ref m_dunder_new) (rest := []) X (by kernel_rfl) (handed_on rfl h)))
theorem make_spec {Q : Value → Shared → Prop} {n sh : Int} {root tail : Addr} {t1 t2 : Tok} {zs : List Value} {tn : Nat} (T : Tp (KK w) mg mb hp) (ht : hp.get? tail = some (LO zs tn)) (hz : zs.length ≤ 1000000) (hroom : A.depth < 700)
    (h : ∀ x dx h' tk t3, Ext hp h' → hp.get? x = none → hp.get? dx = none → x ≠ dx → h'.get? dx = some emptyDict → h'.get? x = some (VO dx n root sh tail (n - zs.length) t1 t2 t3) → Q (.ref x) ⟨h', gs, dr, tk, os⟩) :
    wpAny (model prog w) A (call (.ref aC) [.int n t1, .int sh t2, .ref root, .ref tail]) Q E ⟨hp, gs, dr, tk, os⟩ := by
  obtain ⟨oc, od, cd, sl, hC, e1, e2, e4⟩ := cls_at w
  have hC := T.X _ _ hC
  have call : Looks (model prog w) hp (specialOf (.ref aC) "__call__") (some (.builtin "type.__call__")) := looks_specialIn T.X (by kernel_rfl)
  have typ : Looks (model prog w) hp (isInstance (.ref aC) (.type "type")) true := looks_instIn T.X (by kernel_rfl)
  have made : Looks (model prog w) hp (Bind.madeBy (.ref aC)) none := Looks.of_peek T.X (by kernel_rfl)
  refine wpAny_call ?_
  refine codeAny_of_tree ?_
  show wpAny _ _ (callAny (.ref aC) _) _ _ _
  refine nd_load hC ?_
  show wpAny _ _ (callAny.viaDunder (.ref aC) _) _ _ _
  unfold callAny.viaDunder
  refine wpAny_bind (call.at ?_)
  dsimp only
  rw [tc_bind]
  refine wpAny_bind (wpAny_pure (wpAny_bind (wpAny_pure ?_)))
  refine wpAny_pure (a := Fin.again (.call (.builtin "type.__call__") ⟨.ref aC :: [.int n t1, .int sh t2, .ref root, .ref tail], []⟩)) (And.intro rfl ?_)
  refine codeAny_call_builtin_at (Code.quiet_builtin _ (by decide +kernel)) entry_typeCall (check_slot tc_kind tc_split typ (tc_args _ _ _) ?_)
  unfold Builtin.«type.__call__»
  have hm : Looks (model prog w) hp (mroOf (.ref aC)) cd.mro := ((Looks.ld (part := none) hC).andThen .now).andThen .now
  repeat (first | (with_reducible refine ga_new T.X ?_) | (with_reducible refine new_spec T ht hz ?_ ?_) | simp only [e4, Bool.false_eq_true, if_false] | lk)
  · rw [depth_under_make]; omega
  intro x dx h' tk' t3 eh hxn hdn hne hdx hx
  have I := inst_of hx hdx
  have X' := T.X.keeps eh
  have L0 := I.type (M := model prog w)
  have s1 : Looks (model prog w) h' (isSubtype (.ref aC) (.ref aC)) true := looks_subIn X' (by kernel_rfl)
  have i1 : Looks (model prog w) h' (typeLookup (.ref aC) "__init__") (some (.builtin "object.__init__")) := looks_findIn X' (by kernel_rfl)
  have b1 : Looks (model prog w) h' (bindSpecial (.builtin "object.__init__") (.ref x)) (.builtin "object.__init__", [.ref x]) := Looks.of_pure (oi_bind _)
  unfold isInstance callSpecial? specialOf
  repeat (first | ((with_reducible show wpAny _ _ (PySem.call _ _ _) _ _ _); refine init_call X' hx hdx (rest := [.int n t1, .int sh t2, .ref root, .ref tail]) ?_ ?_) | simp only [bne_self_eq_false, Bool.not_true, Bool.false_eq_true, if_false] | lk)
  · unfold argsOk; kernel_rfl
  · refine wpAny_pure ?_
    exact wpAny_pure (h x dx h' _ t3 eh hxn hdn hne hdx hx)
end
theorem gt_shift {n : Int} (h0 : 0 ≤ n) (h : n < 1056) : decide ((1 : Int) * 2 ^ Int.toNat 5 < n.fdiv (2 ^ Int.toNat 5)) = false := by
  have e : (2 : Int) ^ Int.toNat 5 = 32 := rfl
  rw [e, Int.fdiv_eq_ediv_of_nonneg _ (by decide), decide_eq_false_iff_not]
  omega
section
variable {prog : Program} {w : World} {A : Around} {E : Value → Shared → Prop} {hp : Heap} {gs : Array GenState} {dr : Drawn} {tk : Nat} {os : OsState} {mg mb : Str → Option Value} {x dx : Addr}
set_option maxHeartbeats 4000000 in
theorem push_tail_spec {Q : Value → Shared → Prop} {root : Addr} {v vt : Value} {items : List Value} {n : Nat} {t : Tok} (T : Tp (KK w) mg mb hp) (hr : hp.get? root = some (LO items n)) (hz : items.length ≤ 100000) (hroom : A.depth < 800)
    (h : ∀ D c h' tk, Ext hp h' → hp.get? D = none → h'.get? D = some (LO (items ++ [vt]) c) → Q (.ref D) ⟨h', gs, dr, tk, os⟩) :
    wpAny (model prog w) A (call (.ref m_push_tail) [v, .int 5 t, .ref root, vt]) Q E ⟨hp, gs, dr, tk, os⟩ := by
  refine wpAny_call ?_
  refine call_fx [] (binds := [(Str.ofString "self", v), (Str.ofString "level", .int 5 t), (Str.ofString "parent", .ref root), (Str.ofString "tail_node", vt)]) (by walk_at "room") (T.X _ _ (lk m_push_tail (by kernel_rfl))) (by with_unfolding_all rfl) T.nolimit (codeRec_of T.X (by kernel_rfl)) (BindsTo.of_eq (by with_unfolding_all rfl)) (locs (by with_unfolding_all rfl)) (fun _ q => nomatch q) List.nodup_nil ?_ (by decide +kernel)
  intro L h₁ tk F
  have F : Fx hp L h₁ _ [] := F
  walk_at "r"
  refine lc_copy F (F.keep _ _ hr) (by omega) ?_
  clear F; intro D c hq F _
  walk_at "r"
  rw [if_pos (by decide)]
  walk_at "r"
  refine gm_list F.head PySem.F.slot_list_append PySem.F.type_list_append ?_
  walk_at "r"
  refine lc_append F (by omega) ?_
  clear F; intro hq n' F
  walk_at "r"
  exact h _ _ _ _ F.keep (F.out _ (.head _)) F.head

set_option maxHeartbeats 4000000 in
theorem new_root_spec {Q : Value → Shared → Prop} {root tail : Addr} {n toff : Int} {t1 t2 t3 : Tok} {items : List Value} {nr : Nat} (T : Tp (KK w) mg mb hp) (hx : hp.get? x = some (VO dx n root 5 tail toff t1 t2 t3)) (hdx : hp.get? dx = some emptyDict) (hr : hp.get? root = some (LO items nr)) (hz : items.length ≤ 100000) (hroom : A.depth < 700)
    (h0 : 0 ≤ n) (hn : n < 1056)
    (h : ∀ D c tp h' tk, Ext hp h' → hp.get? D = none → h'.get? D = some (LO (items ++ [.ref tail]) c) → h'.get? tp = some (TO [.ref D, .int 5 t2] 0) → hp.get? tp = none → Q (.ref tp) ⟨h', gs, dr, tk, os⟩) :
    wpAny (model prog w) A (call (.ref m_create_new_root) [.ref x]) Q E ⟨hp, gs, dr, tk, os⟩ := by
  refine wpAny_call ?_
  refine call_fx [] (binds := [(Str.ofString "self", .ref x)]) (by walk_at "room") (T.X _ _ (lk m_create_new_root (by kernel_rfl))) (by with_unfolding_all rfl) T.nolimit (codeRec_of T.X (by kernel_rfl)) (BindsTo.of_eq (by with_unfolding_all rfl)) (locs (by with_unfolding_all rfl)) (fun _ q => nomatch q) List.nodup_nil ?_ (by decide +kernel)
  intro L h₁ tk F
  have F : Fx hp L h₁ _ [] := F
  walk_at "r"
  refine x_rshift (by decide) ?_
  walk_at "r"
  refine x_lshift (by decide) (by decide) (by decide) ?_
  walk_at "r"
  rw [gt_shift h0 hn]
  walk_at "r"
  rw [if_neg (by decide)]
  walk_at "r"
  refine gm_push_tail (T.up F.keep).X (F.keep _ _ hx) (F.keep _ _ hdx) ?_
  refine cw_fn T (by kernel_rfl) ?_
  walk_at "r"
  refine ⟨F.keep, ?_⟩
  refine push_tail_spec (T.up F.keep) (F.keep _ _ hr) hz (by walk_at "room") ?_
  intro D c h₂ tk₂ e₂ hDn hD
  have F := F.gain e₂ hDn hD
  walk_at "r"
  refine nt F ?_ (by simp)
  clear F; intro tp hq F _
  walk_at "r"
  exact h D c tp _ _ F.keep (F.out _ (.tail _ (.head _))) F.head2 F.head (F.out _ (.head _))

/-- a flat root over h: its leaves -/
def RootAt (h : Heap) (root : Addr) (yss : List (List Value)) : Prop :=
  ∃ n, ∃ cs : List Addr, h.get? root = some (LO (cs.map Value.ref) n) ∧ cs.length = yss.length ∧ ∀ (i : Nat) c ys, cs[i]? = some c → yss[i]? = some ys → ∃ n', h.get? c = some (LO ys n')
theorem RootAt.up {h h' : Heap} {root : Addr} {yss : List (List Value)} (R : RootAt h root yss) (e : Ext h h') : RootAt h' root yss :=
  let ⟨n, cs, g, hl, hk⟩ := R
  ⟨n, cs, e _ _ g, hl, fun i c ys h1 h2 => let ⟨n', g'⟩ := hk i c ys h1 h2; ⟨n', e _ _ g'⟩⟩
theorem RootAt.tree {h : Heap} {root : Addr} {yss : List (List Value)} (R : RootAt h root yss) : TreeAt h 1 root yss.flatten :=
  let ⟨n, cs, g, hl, hk⟩ := R
  ⟨n, cs, yss, g, hl, hk, rfl⟩
theorem RootAt.snoc {h h' : Heap} {root D tail : Addr} {yss : List (List Value)} {zs : List Value} {c nt : Nat} {cs : List Addr} {n : Nat} (e : Ext h h') (g : h.get? root = some (LO (cs.map Value.ref) n)) (hl : cs.length = yss.length)
    (hk : ∀ (i : Nat) c ys, cs[i]? = some c → yss[i]? = some ys → ∃ n', h.get? c = some (LO ys n')) (hD : h'.get? D = some (LO (cs.map Value.ref ++ [.ref tail]) c)) (ht : h'.get? tail = some (LO zs nt)) : RootAt h' D (yss ++ [zs]) := by
  refine ⟨c, cs ++ [tail], by rw [hD]; simp, by simp [hl], fun i a ys h1 h2 => ?_⟩
  rcases Nat.lt_trichotomy i cs.length with hi | hi | hi
  · rw [List.getElem?_append_left hi] at h1
    rw [List.getElem?_append_left (by omega)] at h2
    obtain ⟨n', g'⟩ := hk i a ys h1 h2
    exact ⟨n', e _ _ g'⟩
  · subst hi
    rw [List.getElem?_append_right (by omega)] at h1
    rw [List.getElem?_append_right (by omega), hl] at h2
    simp at h1 h2
    subst h1 h2
    exact ⟨nt, ht⟩
  · rw [List.getElem?_eq_none (by simp; omega)] at h1; cases h1

set_option maxHeartbeats 4000000 in
theorem append_spec {Q : Value → Shared → Prop} {root tail : Addr} {n toff : Int} {t1 t2 t3 : Tok} {yss : List (List Value)} {zs : List Value} {nt : Nat} {v : Value} (T : Tp (KK w) mg mb hp) (hx : hp.get? x = some (VO dx n root 5 tail toff t1 t2 t3)) (hdx : hp.get? dx = some emptyDict) (R : RootAt hp root yss) (ht : hp.get? tail = some (LO zs nt))
    (hn : n = 32 * yss.length + zs.length) (hz : zs.length ≤ 32) (hn2 : n < 1056) (hroom : A.depth < 600) (hh : A.handled = none)
    (h : ∀ x' dx' root' tail' h' tk t1' t2' t3' nt' yss' zs', Ext hp (hideAll h' [x', tail']) → hp.get? x' = none → hp.get? tail' = none → hp.get? dx' = none → x' ≠ tail' → (hideAll h' [x', tail']).get? dx' = some emptyDict → RootAt (hideAll h' [x', tail']) root' yss' → h'.get? tail' = some (LO zs' nt') →
      h'.get? x' = some (VO dx' (n + 1) root' 5 tail' (n + 1 - zs'.length) t1' t2' t3') → (zs.length < 32 ∧ yss' = yss ∧ zs' = zs ++ [v] ∨ zs.length = 32 ∧ yss' = yss ++ [zs] ∧ zs' = [v]) → (yss' = [] → root' = root) → Q (.ref x') ⟨h', gs, dr, tk, os⟩) :
    wpAny (model prog w) A (call (.ref m_append) [.ref x, v]) Q E ⟨hp, gs, dr, tk, os⟩ := by
  obtain ⟨nr, cs, gr, hl, hk⟩ := id R
  refine wpAny_call ?_
  refine call_fx [] (binds := [(Str.ofString "self", .ref x), (Str.ofString "val", v)]) (by walk_at "room") (T.X _ _ (lk m_append (by kernel_rfl))) (by with_unfolding_all rfl) T.nolimit (codeRec_of T.X (by kernel_rfl)) (BindsTo.of_eq (by with_unfolding_all rfl)) (locs (by with_unfolding_all rfl)) (fun _ q => nomatch q) List.nodup_nil ?_ (by decide +kernel)
  intro L h₁ tk F
  have F : Fx hp L h₁ _ [] := F
  walk_at "r"
  refine lc_len (F.keep _ _ ht) (by omega) ?_
  intro t4 tk4
  walk_at "r"
  by_cases hlt : zs.length < 32
  · rw [decide_eq_true (by omega), if_pos rfl]
    walk_at "r"
    refine lc_copy F (F.keep _ _ ht) (by omega) ?_
    clear F; intro D c hq F _
    walk_at "r"
    refine gm_list F.head PySem.F.slot_list_append PySem.F.type_list_append ?_
    walk_at "r"
    refine lc_append F (by omega) ?_
    clear F; intro hq n' F
    walk_at "r"
    refine cw_fn T (by kernel_rfl) ?_
    walk_at "r"
    refine ⟨F.keep, ?_⟩
    refine make_spec (zs := zs ++ [v]) (T.up F.keep) F.head (by simp; omega) (by walk_at "room") ?_
    intro x' dx' h' tk' t3' eh hxn hdn hne hdx' hx'
    walk_at "r"
    have F2 := F.ext eh
    have n1 := F.keep.none hxn
    have n2 := F.out _ (.head _)
    have ne1 : x' ≠ D := fun q => by rw [q, F.head] at hxn; cases hxn
    have ne2 : dx' ≠ D := fun q => by rw [q, F.head] at hdn; cases hdn
    have eg := ext_hide2 F2.keep n1 n2
    exact h x' dx' root D h' _ _ _ _ _ yss (zs ++ [v]) eg n1 n2 (F.keep.none hdn) ne1 (hideAll_get _ hdx' (by simp [hne.symm, ne2])) (R.up eg) F2.head (by simpa using hx') (.inl ⟨hlt, rfl, rfl⟩) (fun _ => rfl)
  · rw [decide_eq_false (by omega), if_neg (by decide)]
    walk_at "r"
    refine gm_create_new_root (T.up F.keep).X (F.keep _ _ hx) (F.keep _ _ hdx) ?_
    refine cw_fn0 T F.keep (by kernel_rfl) ?_
    refine new_root_spec (T.up F.keep) (F.keep _ _ hx) (F.keep _ _ hdx) (F.keep _ _ gr) (by simp; omega) (by walk_at "room") (by omega) hn2 ?_
    intro D c tp h' tk' eh hDn hD htp _
    have F := F.gain eh hDn hD
    refine assign_tup2 F hh htp ?_
    clear F; intro hq F _
    walk_at "r"
    refine cw_fn T (by kernel_rfl) ?_
    walk_at "r"
    refine nl F ?_ (by simp)
    clear F; intro E1 hq F _
    walk_at "r"
    refine ⟨F.keep, ?_⟩
    refine make_spec (zs := [v]) (T.up F.keep) F.head (by simp) (by walk_at "room") ?_
    intro x' dx' h' tk' t3' eh hxn hdn hne hdx' hx'
    walk_at "r"
    have F2 := F.ext eh
    have n1 := F.keep.none hxn
    have n2 := F.out _ (.head _)
    have ne1 : x' ≠ E1 := fun q => by rw [q, F.head] at hxn; cases hxn
    have ne2 : dx' ≠ E1 := fun q => by rw [q, F.head] at hdn; cases hdn
    have ne3 : x' ≠ D := fun q => by rw [q, F.head2] at hxn; cases hxn
    have eg := ext_hide2 F2.keep n1 n2
    exact h x' dx' D E1 h' _ _ _ _ _ (yss ++ [zs]) [v] eg n1 n2 (F.keep.none hdn) ne1 (hideAll_get _ hdx' (by simp [hne.symm, ne2])) (RootAt.snoc eg gr hl hk (hideAll_get _ F2.head2 (by simp [ne3.symm, F.ne12.symm])) (eg _ _ ht)) F2.head (by simpa using hx') (.inr ⟨by omega, rfl, rfl⟩) (fun q => absurd q (by simp))
end
theorem cutL_nat (items : List Value) (a b : Nat) (h : a ≤ items.length) : cutL items (some a) (some b) = (items.drop a).take (b - a) := by
  unfold cutL
  rw [slicePick_plain]
  simp only [Option.elim, clipAt_nat, List.size_toArray]
  rw [Nat.min_eq_left h]
  rcases Nat.le_total b items.length with hb | hb
  · rw [Nat.min_eq_left hb]
  · rw [Nat.min_eq_right hb, List.take_of_length_le (by simp), List.take_of_length_le (by simp; omega)]
theorem RootAt.trim {h b : Heap} {D : Addr} {yss : List (List Value)} (R : RootAt h D yss) (hne : yss ≠ []) (hy : ∀ ys ∈ yss, ys ≠ []) (k : ∀ c items n, items ≠ [] → h.get? c = some (LO items n) → b.get? c = some (LO items n)) : RootAt b D yss := by
  obtain ⟨n, cs, g, hl, hk⟩ := R
  refine ⟨n, cs, k _ _ _ ?_ g, hl, fun i c ys h1 h2 => ?_⟩
  · cases cs with
    | nil => cases yss with
      | nil => exact absurd rfl hne
      | cons a r => cases hl
    | cons a r => simp
  · obtain ⟨n', g'⟩ := hk i c ys h1 h2
    exact ⟨n', k _ _ _ (hy _ (List.mem_of_getElem? h2)) g'⟩
section
variable {prog : Program} {w : World} {A : Around} {E : Value → Shared → Prop} {hp : Heap} {gs : Array GenState} {dr : Drawn} {tk : Nat} {os : OsState} {mg mb : Str → Option Value} {x dx : Addr}
set_option maxHeartbeats 4000000 in
theorem fill_tail_spec {Q : Value → Shared → Prop} {g : Heap} {root tail sq : Addr} {n toff : Int} {t1 t2 t3 to : Tok} {zs seq : List Value} {nt ns : Nat} {off : Nat} (T : Tp (KK w) mg mb g) (he : Ext g hp) (hgx : g.get? x = none) (hgt : g.get? tail = none) (hxt : x ≠ tail)
    (hx : hp.get? x = some (VO dx n root 5 tail toff t1 t2 t3)) (hdx : g.get? dx = some emptyDict) (ht : hp.get? tail = some (LO zs nt)) (hs : g.get? sq = some (LO seq ns)) (hz : zs.length ≤ 32) (hsz : seq.length ≤ 100000) (ho : off ≤ seq.length) (hroom : A.depth < 700)
    (h : ∀ h' tk t t1' nt', Ext g h' → h'.get? x = some (VO dx (n + ((seq.drop off).take (32 - zs.length)).length) root 5 tail toff t1' t2 t3) → h'.get? tail = some (LO (zs ++ (seq.drop off).take (32 - zs.length)) nt') →
      Q (.int (off + ((seq.drop off).take (32 - zs.length)).length) t) ⟨h', gs, dr, tk, os⟩) :
    wpAny (model prog w) A (call (.ref m_mutating_fill_tail) [.ref x, .int off to, .ref sq]) Q E ⟨hp, gs, dr, tk, os⟩ := by
  have T0 := T.up he
  refine wpAny_call ?_
  refine call_fx [(x, VO dx n root 5 tail toff t1 t2 t3), (tail, LO zs nt)] (binds := [(Str.ofString "self", .ref x), (Str.ofString "offset", .int off to), (Str.ofString "sequence", .ref sq)]) (by walk_at "room") (T0.X _ _ (lk m_mutating_fill_tail (by kernel_rfl))) (by with_unfolding_all rfl) T0.nolimit (codeRec_of T0.X (by kernel_rfl)) (BindsTo.of_eq (by with_unfolding_all rfl)) (locs (by with_unfolding_all rfl)) (fun p hp => by
    rcases List.mem_cons.mp hp with rfl | hp
    · exact hx
    · rw [List.mem_singleton.mp hp]; exact ht) (by simp [hxt]) ?_ (by decide +kernel)
  clear hx
  intro L h₁ tk F
  have eb := ext_hide2 he hgx hgt
  have T := T.up eb
  have hdx := eb _ _ hdx
  have hs := eb _ _ hs
  have F : Fx (hideAll hp [x, tail]) L h₁ _ [(x, VO dx n root 5 tail toff t1 t2 t3), (tail, LO zs nt)] := F
  walk_at "r"
  refine lc_len F.head2 (by omega) ?_
  intro t4 tk4
  walk_at "r"
  refine cut_list (lo := some (off : Int)) (hi := some ((off + (32 - zs.length) : Nat) : Int)) F (F.keep _ _ hs) (by omega) (.int _ _) ?_ ?_
  · rw [show ((off + (32 - zs.length) : Nat) : Int) = (off : Int) + (32 - (zs.length : Int)) by omega]; exact .int _ _
  clear F; intro D hq F _
  rw [cutL_nat _ _ _ ho, show off + (32 - zs.length) - off = 32 - zs.length by omega] at F
  generalize hdl : (seq.drop off).take (32 - zs.length) = delta at *
  have hdle : delta.length ≤ 32 := by rw [← hdl, List.length_take]; omega
  walk_at "r"
  have F := F.rot3'
  walk_at "r"
  refine gm_list F.head2 PySem.F.slot_list_extend PySem.F.type_list_extend ?_
  walk_at "r"
  have F := F.rot3'
  refine lc_extend F F.head2 (by omega) ?_
  clear F; intro hq n' F
  walk_at "r"
  refine lc_len F.head2 (by omega) ?_
  intro t5 tk5
  walk_at "r"
  have F := F.rot3
  walk_at "r"
  refine sa_count F (T.up F.keep).X (F.keep _ _ hdx) ?_
  clear F; intro hq F
  walk_at "r"
  exact h _ _ _ _ _ (eb.trans F.keep) F.head F.head2

set_option maxHeartbeats 4000000 in
theorem insert_tail_spec {Q : Value → Shared → Prop} {g : Heap} {root tail : Addr} {n toff : Int} {t1 t2 t3 : Tok} {yss : List (List Value)} {zs : List Value} {nt : Nat} (T : Tp (KK w) mg mb g) (he : Ext g hp) (hgx : g.get? x = none)
    (hx : hp.get? x = some (VO dx n root 5 tail toff t1 t2 t3)) (hdx : g.get? dx = some emptyDict) (R : RootAt g root yss) (ht : g.get? tail = some (LO zs nt)) (h0 : 0 ≤ n) (hn : n < 1056) (hy : yss.length ≤ 100000) (hroom : A.depth < 600) (hh : A.handled = none)
    (h : ∀ h' tk D E1 t2', Ext g h' → h'.get? x = some (VO dx n D 5 E1 toff t1 t2' t3) → RootAt h' D (yss ++ [zs]) → hp.get? D = none → h'.get? E1 = some (LO [] 0) → hp.get? E1 = none → Q .none ⟨h', gs, dr, tk, os⟩) :
    wpAny (model prog w) A (call (.ref m_mutating_insert_tail) [.ref x]) Q E ⟨hp, gs, dr, tk, os⟩ := by
  have T0 := T.up he
  obtain ⟨nr, cs, gr, hl, hk⟩ := id R
  refine wpAny_call ?_
  refine call_fx [(x, VO dx n root 5 tail toff t1 t2 t3)] (binds := [(Str.ofString "self", .ref x)]) (by walk_at "room") (T0.X _ _ (lk m_mutating_insert_tail (by kernel_rfl))) (by with_unfolding_all rfl) T0.nolimit (codeRec_of T0.X (by kernel_rfl)) (BindsTo.of_eq (by with_unfolding_all rfl)) (locs (by with_unfolding_all rfl)) (fun p hp => by rw [List.mem_singleton.mp hp]; exact hx) (by simp) ?_ (by decide +kernel)
  have hxo := hx
  clear hx
  intro L h₁ tk F
  have eb := ext_hide1 he hgx
  have T := T.up eb
  have hdx := eb _ _ hdx
  have F : Fx (hideAll hp [x]) L h₁ _ [(x, VO dx n root 5 tail toff t1 t2 t3)] := F
  walk_at "r"
  refine gm_create_new_root (T.up F.keep).X F.head (F.keep _ _ hdx) ?_
  refine cw_fn0 T F.keep (by kernel_rfl) ?_
  refine new_root_spec (T.up F.keep) F.head (F.keep _ _ hdx) (F.keep _ _ (eb _ _ gr)) (by simp; omega) (by walk_at "room") h0 hn ?_
  intro D c tp h' tk' eh hDn hD htp _
  have F := (F.gain eh hDn hD).swap
  refine assign_tup2 F hh htp ?_
  clear F; intro hq F _
  walk_at "r"
  refine sa_root F (T.up F.keep).X (F.keep _ _ hdx) ?_
  clear F; intro hq F
  walk_at "r"
  refine sa_shift F (T.up F.keep).X (F.keep _ _ hdx) ?_
  clear F; intro hq F
  walk_at "r"
  refine nl F ?_ (by simp)
  clear F; intro E1 hq F _
  have F := F.swap
  walk_at "r"
  refine sa_tail F (T.up F.keep).X (F.keep _ _ hdx) ?_
  clear F; intro hq F
  walk_at "r"
  have nE : hp.get? E1 = none := none_of_hide1 (F.out _ (.tail _ (.head _))) F.ne12.symm
  have nD : hp.get? D = none := none_of_hide1 (F.out _ (.tail _ (.tail _ (.head _)))) F.ne13.symm
  exact h _ _ D E1 _ (eb.trans F.keep) F.head (RootAt.snoc (eb.trans F.keep) gr hl hk F.head3 (F.keep _ _ (eb _ _ ht))) nD F.head2 nE

set_option maxHeartbeats 4000000 in
theorem mut_extend_spec {Q : Value → Shared → Prop} {g : Heap} {root tail sq : Addr} {n toff : Int} {t1 t2 t3 : Tok} {yss : List (List Value)} {zs seq : List Value} {nt ns : Nat} (T : Tp (KK w) mg mb g) (he : Ext g hp) (hgx : g.get? x = none) (hgt : g.get? tail = none) (hxt : x ≠ tail)
    (hx : hp.get? x = some (VO dx n root 5 tail toff t1 t2 t3)) (hdx : g.get? dx = some emptyDict) (R : RootAt g root yss) (ht : hp.get? tail = some (LO zs nt)) (hs : g.get? sq = some (LO seq ns)) (hn : n = 32 * yss.length + zs.length) (hz : zs.length ≤ 32) (hy : ∀ ys ∈ yss, ys.length = 32)
    (hn2 : n + seq.length < 1056) (hroom : A.depth < 500) (hh : A.handled = none)
    (h : ∀ h' tk root' tail' t1' t2' t3' nt' yss' zs', Ext g h' → (h'.get? x = some (VO dx (n + seq.length) root' 5 tail' (n + seq.length - zs'.length) t1' t2' t3')) → RootAt h' root' yss' → h'.get? tail' = some (LO zs' nt') → g.get? tail' = none → x ≠ tail' → (∀ ys ∈ yss', ys.length = 32) → zs'.length ≤ 32 →
      yss'.flatten ++ zs' = yss.flatten ++ zs ++ seq → (yss' = [] → root' = root ∧ yss = []) → Q .none ⟨h', gs, dr, tk, os⟩) :
    wpAny (model prog w) A (call (.ref m_mutating_extend) [.ref x, .ref sq]) Q E ⟨hp, gs, dr, tk, os⟩ := by
  have T0 := T.up he
  refine wpAny_call ?_
  refine call_fx [(x, VO dx n root 5 tail toff t1 t2 t3), (tail, LO zs nt)] (binds := [(Str.ofString "self", .ref x), (Str.ofString "sequence", .ref sq)]) (by walk_at "room") (T0.X _ _ (lk m_mutating_extend (by kernel_rfl))) (by with_unfolding_all rfl) T0.nolimit (codeRec_of T0.X (by kernel_rfl)) (BindsTo.of_eq (by with_unfolding_all rfl)) (locs (by with_unfolding_all rfl)) (fun p hp => by
    rcases List.mem_cons.mp hp with rfl | hp
    · exact hx
    · rw [List.mem_singleton.mp hp]; exact ht) (by simp [hxt]) ?_ (by decide +kernel)
  have hxo := hx
  clear hx
  intro L h₁ tk F
  have eb := ext_hide2 he hgx hgt
  have T := T.up eb
  have hdx := eb _ _ hdx
  have hs := eb _ _ hs
  have R := R.up eb
  have F : Fx (hideAll hp [x, tail]) L h₁ _ [(x, VO dx n root 5 tail toff t1 t2 t3), (tail, LO zs nt)] := F
  walk_at "r"
  refine lc_len (F.keep _ _ hs) (by omega) ?_
  intro t5 tk5
  walk_at "r"
  refine wpAny_While ?_
  refine loop_while F (fun k b' m' own' => ∃ (off : Nat) (root' tail' : Addr) (t1' t2' t3' to : Tok) (yss' : List (List Value)) (zs' : List Value) (nt' : Nat), m' (Str.ofString "self") = some (.ref x) ∧ m' (Str.ofString "sequence") = some (.ref sq) ∧ m' (Str.ofString "sequence_len") = some (.int seq.length t5) ∧ m' (Str.ofString "offset") = some (.int off to) ∧
      own' = [(x, VO dx (n + off) root' 5 tail' toff t1' t2' t3'), (tail', LO zs' nt')] ∧ RootAt b' root' yss' ∧ n + off = 32 * yss'.length + zs'.length ∧ zs'.length ≤ 32 ∧ (∀ ys ∈ yss', ys.length = 32) ∧ yss'.flatten ++ zs' = yss.flatten ++ zs ++ seq.take off ∧ off ≤ seq.length ∧ k = 2 * (seq.length - off) + (if zs'.length = 32 then 1 else 0) ∧ (yss' = [] → root' = root ∧ yss = []))
    (2 * seq.length + (if zs.length = 32 then 1 else 0)) ⟨0, root, tail, t1, t2, t3, _, yss, zs, nt, rfl, rfl, rfl, rfl, by simp, R, by simpa using hn, hz, hy, by simp, Nat.zero_le _, by simp, fun q => ⟨rfl, q⟩⟩ ?_
  rintro k b₁ m₁ own₁ h₂ tk₂ E' ⟨off, root', tail', t1', t2', t3', to, yss', zs', nt', ms, mq, ml, mo, rfl, R', hn', hz', hy', hcat, hoff, rfl, hroo⟩ e₁ F
  have T := T.up e₁
  have hdx := e₁ _ _ hdx
  have hs := e₁ _ _ hs
  walk_at "r"
  by_cases hlt : off < seq.length
  · rw [decide_eq_true (by omega), if_pos rfl]
    walk_at "r"
    refine gm_mutating_fill_tail (T.up F.keep).X F.head (F.keep _ _ hdx) ?_
    refine cw_fn T (by kernel_rfl) ?_
    walk_at "r"
    refine ⟨F.keep, ?_⟩
    refine fill_tail_spec (g := hideAll h₂ [x, tail']) (T.up F.hid2) (fun _ _ e => of_hideAll _ e) (hideAll_none _ (by simp)) (hideAll_none _ (by simp)) F.ne12 F.head (F.hid2 _ _ hdx) F.head2 (F.hid2 _ _ hs) hz' (by omega) hoff (by walk_at "room") ?_
    generalize hdl : (seq.drop off).take (32 - zs'.length) = delta at *
    have hdle : delta.length = min (32 - zs'.length) (seq.length - off) := by rw [← hdl, List.length_take, List.length_drop]
    have htake : seq.take (off + delta.length) = seq.take off ++ delta := by
      rw [List.take_add, ← hdl, List.length_take]
      congr 1
      rcases Nat.le_total (32 - zs'.length) (seq.drop off).length with h | h
      · rw [Nat.min_eq_left h]
      · rw [Nat.min_eq_right h, List.take_length, List.take_of_length_le h]
    intro h₃ tk₃ t₃ t1₃ nt₃ e₃ hx₃ ht₃
    have F := F.back2 e₃ hx₃ ht₃
    walk_at "r"
    refine lc_len F.head2 (by simp; omega) ?_
    intro t6 tk6
    walk_at "r"
    by_cases hfull : (zs' ++ delta).length = 32
    · rw [if_pos (by rw [hfull]; decide)]
      walk_at "r"
      refine gm_mutating_insert_tail (T.up F.keep).X F.head (F.keep _ _ hdx) ?_
      refine cw_fn0 T F.keep (by kernel_rfl) ?_
      have hfl : (zs' ++ delta).length = 32 := hfull
      obtain ⟨b₂, e₂, F₂, kq, kb, _⟩ := F.freeze1
      have htl := kq (tail', LO (zs' ++ delta) nt₃) (by simp)
      have T := T.up e₂
      have hdx := e₂ _ _ hdx
      refine insert_tail_spec (g := Heap.hide _ x) (T.up F₂.hid) (hide_ext _ _) (Heap.hide_self _ _) F₂.head (F₂.hid _ _ hdx) ((R'.up e₂).up F₂.hid) (F₂.hid _ _ htl) (by omega) (by simp at hfl; omega) (by omega) (by walk_at "room") hh ?_
      intro h₄ tk₄ D E1 t2₄ e₄ hx₄ R₄ hDn hE1 hE1n
      have F₄ := F₂.back1 e₄ hx₄
      have F₅ := (F₂.addNew F₄ rfl hE1n hE1).swap
      have hyn : ∀ ys ∈ yss' ++ [zs' ++ delta], ys.length = 32 := fun ys hm => by
        rcases List.mem_append.mp hm with hm | hm
        · exact hy' ys hm
        · rw [List.mem_singleton.mp hm]; exact hfl
      obtain ⟨b₃, e₅, F₆, kk, _⟩ := F₅.freeze _ (List.Sublist.refl _)
      have R₆ : RootAt b₃ D (yss' ++ [zs' ++ delta]) := R₄.trim (by simp) (fun ys hm q => by have := hyn ys hm; rw [q] at this; cases this) fun c items nn hne hg => kk c _ (F₅.notL' hg (fun _ _ => by simp)) (fun q => by
        rcases List.mem_cons.mp q with z | z
        · rw [z, F₅.head] at hg; cases hg
        · rw [List.mem_singleton.mp z, F₅.head2] at hg
          injection hg with hg; injection hg with _ _ hg; injection hg with hg
          exact hne (by simpa using hg.symm)) hg
      walk_at "r"
      rw [show n + (off : Int) + (delta.length : Int) = n + ((off + delta.length : Nat) : Int) by omega, show (off : Int) + (delta.length : Int) = ((off + delta.length : Nat) : Int) by omega] at F₆
      simp only [List.length_append] at hfl
      refine TurnEnd.mk0 F₆ (e₂.trans e₅) ⟨2 * (seq.length - (off + delta.length)) + 0, ?_, off + delta.length, D, E1, _, _, _, _, yss' ++ [zs' ++ delta], [], _, by walk_at "look", by walk_at "look", by walk_at "look", by walk_at "look", rfl, R₆, ?_, by simp, hyn, ?_, ?_, by simp, fun q => absurd q (by simp)⟩
      · split <;> omega
      · simp only [List.length_append, List.length_cons, List.length_nil]; omega
      · rw [List.flatten_append, List.append_nil, htake]; simp only [List.flatten_cons, List.flatten_nil, List.append_nil]; rw [← List.append_assoc, hcat, List.append_assoc]
      · omega
    · rw [if_neg (by simp at hfull ⊢; omega)]
      walk_at "r"
      rw [show n + (off : Int) + (delta.length : Int) = n + ((off + delta.length : Nat) : Int) by omega, show (off : Int) + (delta.length : Int) = ((off + delta.length : Nat) : Int) by omega] at F
      simp only [List.length_append] at hfull
      refine TurnEnd.mk0 F .rfl' ⟨2 * (seq.length - (off + delta.length)) + (if (zs' ++ delta).length = 32 then 1 else 0), ?_, off + delta.length, root', tail', _, _, _, _, yss', zs' ++ delta, _, by walk_at "look", by walk_at "look", by walk_at "look", by walk_at "look", rfl, R', ?_, ?_, hy', ?_, ?_, rfl, hroo⟩
      · simp only [List.length_append]; split <;> split <;> omega
      · simp only [List.length_append]; omega
      · simp only [List.length_append]; omega
      · rw [← List.append_assoc, hcat, htake, List.append_assoc]
      · omega
  · rw [decide_eq_false (by omega), if_neg (by decide)]
    have ho : off = seq.length := by omega
    subst ho
    walk_at "r"
    refine lc_len F.head2 (by omega) ?_
    intro t6 tk6
    walk_at "r"
    refine sa_tail_offset F (T.up F.keep).X (F.keep _ _ hdx) ?_
    clear F; intro hq F
    walk_at "r"
    rw [List.take_length] at hcat
    have gt : g.get? tail' = none := eb.none (e₁.none (F.out _ (.tail _ (.head _))))
    exact h _ _ root' tail' _ _ _ _ yss' zs' (eb.trans (e₁.trans F.keep)) F.head (R'.up F.keep) F.head2 gt F.ne12 hy' hz' hcat hroo
end
theorem RootAt.trim2 {h b : Heap} {D : Addr} {yss : List (List Value)} (R : RootAt h D yss) (k : ∀ c items n, h.get? c = some (LO items n) → b.get? c = some (LO items n)) : RootAt b D yss := by
  obtain ⟨n, cs, g, hl, hk⟩ := R
  exact ⟨n, cs, k _ _ _ g, hl, fun i c ys h1 h2 => by obtain ⟨n', g'⟩ := hk i c ys h1 h2; exact ⟨n', k _ _ _ g'⟩⟩
/-- a vector over h, and what it holds -/
def VecAt (h : Heap) (x : Addr) (xs : List Value) : Prop :=
  ∃ (dx root tail : Addr) (n toff : Int) (t1 t2 t3 : Tok) (yss : List (List Value)) (zs : List Value) (nt : Nat), h.get? x = some (VO dx n root 5 tail toff t1 t2 t3) ∧ h.get? dx = some emptyDict ∧ RootAt h root yss ∧ h.get? tail = some (LO zs nt) ∧
    n = 32 * yss.length + zs.length ∧ toff = n - zs.length ∧ zs.length ≤ 32 ∧ (∀ ys ∈ yss, ys.length = 32) ∧ xs = yss.flatten ++ zs
theorem VecAt.up {h h' : Heap} {x : Addr} {xs : List Value} (V : VecAt h x xs) (e : Ext h h') : VecAt h' x xs :=
  let ⟨dx, root, tail, n, toff, t1, t2, t3, yss, zs, nt, a, b, c, d, r⟩ := V
  ⟨dx, root, tail, n, toff, t1, t2, t3, yss, zs, nt, e _ _ a, e _ _ b, c.up e, e _ _ d, r⟩
theorem flat_len : ∀ {yss : List (List Value)}, (∀ ys ∈ yss, ys.length = 32) → yss.flatten.length = 32 * yss.length
  | [], _ => rfl
  | y :: r, h => by
    rw [List.flatten_cons, List.length_append, flat_len (fun ys m => h ys (.tail _ m)), h y (.head _), List.length_cons]; omega
theorem VecAt.len {h : Heap} {x : Addr} {xs : List Value} (V : VecAt h x xs) : ∃ dx root tail n toff t1 t2 t3, h.get? x = some (VO dx n root 5 tail toff t1 t2 t3) ∧ h.get? dx = some emptyDict ∧ n = xs.length := by
  obtain ⟨dx, root, tail, n, toff, t1, t2, t3, yss, zs, nt, a, b, c, d, e1, e2, e3, e4, rfl⟩ := V
  exact ⟨dx, root, tail, n, toff, t1, t2, t3, a, b, by rw [List.length_append, flat_len e4]; omega⟩
section
variable {prog : Program} {w : World} {A : Around} {E : Value → Shared → Prop} {hp : Heap} {gs : Array GenState} {dr : Drawn} {tk : Nat} {os : OsState} {mg mb : Str → Option Value} {x dx : Addr} {sl : List (Option Value)} {Q : Value → Shared → Prop}
theorem isi_list {l : Addr} {items : List Value} {n : Nat} (X : (KK w).In hp) (hl : hp.get? l = some (LO items n)) (h : ∀ tk, Q (.bool false) ⟨hp, gs, dr, tk, os⟩) : wpAny (model prog w) A (call (.builtin "isinstance") [.ref l, .ref aC]) Q E ⟨hp, gs, dr, tk, os⟩ :=
  kia_one kitx_list X ⟨_, hl, rfl⟩ (by kernel_rfl) (by intro q; cases q) h
theorem isi_vec (X : (KK w).In hp) (hx : hp.get? x = some (IO dx sl)) (hdx : hp.get? dx = some emptyDict) (h : Q (.bool true) ⟨hp, gs, dr, tk, os⟩) : wpAny (model prog w) A (call (.builtin "isinstance") [.ref x, .ref aC]) Q E ⟨hp, gs, dr, tk, os⟩ :=
  isi_call X (fun M => (inst_of hx hdx).type) (by kernel_rfl) (by intro q; cases q) h
theorem empty_vec (X : (KK w).In hp) : VecAt hp aEmpty [] := by
  have h1 : ∃ dx root n tail toff t1 t2 t3 nr nt, (KK w).lookup aEmpty = some (VO dx n root 5 tail toff t1 t2 t3) ∧ (KK w).lookup dx = some emptyDict ∧ (KK w).lookup root = some (LO [] nr) ∧ (KK w).lookup tail = some (LO [] nt) ∧ n = 0 ∧ toff = 0 :=
    ⟨_, _, _, _, _, _, _, _, _, _, by with_unfolding_all rfl, by with_unfolding_all rfl, by with_unfolding_all rfl, by with_unfolding_all rfl, rfl, rfl⟩
  obtain ⟨dx, root, n, tail, toff, t1, t2, t3, nr, nt, a, b, c, d, rfl, rfl⟩ := h1
  exact ⟨dx, root, tail, 0, 0, t1, t2, t3, [], [], nt, X _ _ a, X _ _ b, ⟨nr, [], X _ _ c, rfl, fun i c ys q => by simp at q⟩, X _ _ d, rfl, rfl, by decide, (fun _ m => nomatch m), rfl⟩

/-- what extend may be handed -/
def Src (h : Heap) (v : Value) (ys : List Value) : Prop := (∃ l n, v = .ref l ∧ h.get? l = some (LO ys n)) ∨ ∃ y, v = .ref y ∧ VecAt h y ys
/-- a vector that is new: its last row is new, its root, where it is empty, is r -/
def NewAt (h₀ h : Heap) (r x : Addr) : Prop := ∃ dx root tail n sh toff t1 t2 t3, h.get? x = some (VO dx n root sh tail toff t1 t2 t3) ∧ (∀ c, h.get? root = some (LO [] c) → root = r) ∧ h₀.get? tail = none
theorem root_same {h : Heap} {x dx dx' r r' tl tl' : Addr} {n n' sh sh' tf tf' : Int} {t1 t2 t3 t1' t2' t3' : Tok} (a : h.get? x = some (VO dx n r sh tl tf t1 t2 t3)) (b : h.get? x = some (VO dx' n' r' sh' tl' tf' t1' t2' t3')) : r = r' := by
  rw [a] at b
  have := Option.some.inj b
  simp only [VO, IO] at this
  injection this with _ _ _ q
  simp at q
  exact q.2.1
theorem RootAt.nil_of {h : Heap} {root : Addr} {yss : List (List Value)} {c : Nat} (R : RootAt h root yss) (e : h.get? root = some (LO [] c)) : yss = [] := by
  obtain ⟨n, cs, g, hl, _⟩ := R
  rw [g] at e
  have q : (cs.map Value.ref).toArray = ([] : List Value).toArray := by
    have := Option.some.inj e
    injection this with _ _ hd _
    injection hd
  have q : cs = [] := by simpa using q
  subst q
  exact List.eq_nil_of_length_eq_zero hl.symm
set_option maxHeartbeats 4000000 in
/-- the vector is the first one itself, or its last row is new and its root, where it is empty, the first one's -/
theorem extend_specR {rx : Addr} (hrx : ∃ dx n sh tail toff t1 t2 t3, hp.get? x = some (VO dx n rx sh tail toff t1 t2 t3)) {xs ys : List Value} {v : Value} (T : Tp (KK w) mg mb hp) (V : VecAt hp x xs) (S : Src hp v ys) (hn : xs.length + ys.length < 1056) (hroom : A.depth < 400) (hh : A.handled = none)
    (h : ∀ x' h' tk, Ext hp h' → VecAt h' x' (xs ++ ys) → (x' = x ∧ ys = [] ∨ NewAt hp h' rx x') → Q (.ref x') ⟨h', gs, dr, tk, os⟩) :
    wpAny (model prog w) A (call (.ref m_extend) [.ref x, v]) Q E ⟨hp, gs, dr, tk, os⟩ := by
  refine wpAny_call ?_
  refine call_fx [] (binds := [(Str.ofString "self", .ref x), (Str.ofString "obj", v)]) (by walk_at "room") (T.X _ _ (lk m_extend (by kernel_rfl))) (by with_unfolding_all rfl) T.nolimit (codeRec_of T.X (by kernel_rfl)) (BindsTo.of_eq (by with_unfolding_all rfl)) (locs (by with_unfolding_all rfl)) (fun _ q => nomatch q) List.nodup_nil ?_ (by decide +kernel)
  intro L h₁ tk F
  have F : Fx hp L h₁ (fun y => List.lookup y [(Str.ofString "self", Value.ref x), (Str.ofString "obj", v)].reverse) [] := F
  walk_at "r"
  refine wpAny_mono (Q := fun u s' => ∃ D c h' tk', u = .ref D ∧ s' = ⟨h', gs, dr, tk', os⟩ ∧ Fx hp L h' (fun y => List.lookup y [(Str.ofString "self", Value.ref x), (Str.ofString "obj", v)].reverse) [(D, LO ys c)]) ?_ ?_ fun _ _ z => z
  · refine wpAny_IfExp ?_
    rcases S with ⟨l, nl, rfl, hl⟩ | ⟨y, rfl, Vy⟩
    · walk_at "r"
      refine isi_list (T.up F.keep).X (F.keep _ _ hl) ?_
      intro tk'
      walk_at "r"
      rw [if_neg (by decide)]
      walk_at "r"
      refine lc_copy F (F.keep _ _ hl) (by omega) ?_
      clear F; intro D c hq F _
      exact ⟨D, c, _, _, rfl, rfl, F⟩
    · obtain ⟨dy, ry, ty, ny, oy, u1, u2, u3, yy, zy, nty, y1, y2, y3, y4, y5, y6, y7, y8, y9⟩ := id Vy
      walk_at "r"
      refine isi_vec (T.up F.keep).X (F.keep _ _ y1) (F.keep _ _ y2) ?_
      walk_at "r"
      rw [if_pos rfl]
      walk_at "r"
      refine gm_tolist (T.up F.keep).X (F.keep _ _ y1) (F.keep _ _ y2) ?_
      refine cw_fn0 T F.keep (by kernel_rfl) ?_
      refine tolist_spec (k := 1) (T.up F.keep) (F.keep _ _ y1) (F.keep _ _ y2) rfl (y3.tree.up F.keep) (F.keep _ _ y4) (by walk_at "room") hh (by rw [y9, List.length_append] at hn; omega) ?_
      intro D c h' tk' eh hDn hD
      rw [← y9] at hD
      exact ⟨D, c, _, _, rfl, rfl, F.gain eh hDn hD⟩
  rintro u s' ⟨D, c, h₂, tk₂, rfl, rfl, F⟩
  walk_at "r"
  refine tr_list F.head (by omega) ?_
  intro tk₃
  cases ys with
  | nil =>
    rw [if_neg (by simp)]
    walk_at "r"
    exact h x _ _ F.keep (by rw [List.append_nil]; exact V.up F.keep) (.inl ⟨rfl, rfl⟩)
  | cons y0 rest =>
    rw [if_pos (by simp)]
    obtain ⟨b₁, e₁, F₁, kD, _, _⟩ := F.freezeA
    have hD := kD (D, LO (y0 :: rest) c) (by simp)
    clear F
    have F := F₁; clear F₁
    have T := T.up e₁
    have V := V.up e₁
    obtain ⟨dx, root, tail, n, toff, t1, t2, t3, yss, zs, nt, hx, hdx, R, ht, e5, e6, e7, e8, e9⟩ := id V
    have hroot : root = rx := by
      obtain ⟨_, _, _, _, _, _, _, _, q⟩ := hrx
      exact root_same hx (e₁ _ _ q)
    have hlen : (n : Int) = xs.length := by rw [e9, List.length_append, flat_len e8]; omega
    rw [List.length_cons] at hn
    walk_at "r"
    refine gm_append (T.up F.keep).X (F.keep _ _ hx) (F.keep _ _ hdx) ?_
    refine cw_fn T (by kernel_rfl) ?_
    walk_at "r"
    refine sub_list (F.keep _ _ hD) (by decide) (by decide) rfl ?_
    walk_at "r"
    refine ⟨F.keep, ?_⟩
    refine append_spec (T.up F.keep) (F.keep _ _ hx) (F.keep _ _ hdx) (R.up F.keep) (F.keep _ _ ht) e5 e7 (by omega) (by walk_at "room") hh ?_
    intro x' dx' root' tail' h' tk' t1' t2' t3' nt' yss' zs' eg hxn htn hdn hxt hdx' R' ht' hx' hc hr1
    obtain ⟨b₂, e₂, F₂, k₂⟩ := F.take2 eg hxt hx' ht' hxn htn
    have kl : ∀ c oc, (∀ es n, oc.data ≠ .dict es n) → (hideAll h' [x', tail']).get? c = some oc → b₂.get? c = some oc := fun c oc hd e => k₂ c oc (F₂.notL' (of_hideAll _ e) hd) e
    have hdx₂ : b₂.get? dx' = some emptyDict := k₂ _ _ (fun q => by obtain ⟨oL, _, _, hL, _⟩ := F.ns; rw [← q, hdn] at hL; cases hL) hdx'
    have R₂ : RootAt b₂ root' yss' := R'.trim2 fun c items nn e => kl c _ (fun _ _ => by simp) e
    clear F
    have F := F₂; clear F₂
    have T := T.up e₂
    have hD := e₂ _ _ hD
    have hcat : yss'.flatten ++ zs' = xs ++ [y0] ∧ zs'.length ≤ 32 ∧ (∀ ys ∈ yss', ys.length = 32) ∧ n + 1 = 32 * yss'.length + zs'.length := by
      rcases hc with ⟨c1, rfl, rfl⟩ | ⟨c1, rfl, rfl⟩
      · exact ⟨by rw [e9, List.append_assoc], by simp; omega, e8, by simp; omega⟩
      · refine ⟨by rw [e9]; simp, by simp, fun ys hm => ?_, by simp; omega⟩
        rcases List.mem_append.mp hm with hm | hm
        · exact e8 ys hm
        · rw [List.mem_singleton.mp hm]; exact c1
    obtain ⟨hcat, hz', hy', hn'⟩ := hcat
    walk_at "r"
    refine gm_mutating_extend (T.up F.keep).X F.head (F.keep _ _ hdx₂) ?_
    refine cw_fn T (by kernel_rfl) ?_
    walk_at "r"
    refine cut_list (lo := some ((1 : Nat) : Int)) (hi := none) F (F.keep _ _ hD) (by simp; omega) (.int _ _) .none ?_
    clear F; intro D2 hq F _
    have ecut : cutL (y0 :: rest) (some ((1 : Nat) : Int)) none = rest := by unfold cutL; rw [slicePick_from']; simp
    rw [ecut] at F
    walk_at "r"
    refine ⟨F.keep, ?_⟩
    have F := F.rot3'
    have hid := F.hid2
    refine mut_extend_spec (g := hideAll _ [x', tail']) (T.up F.hid2) (fun _ _ e => of_hideAll _ e) (hideAll_none _ (by simp)) (hideAll_none _ (by simp)) hxt F.head (F.hid2 _ _ hdx₂) (R₂.up F.hid2) F.head2 (hideAll_get _ F.head3 (by simp [F.rot3.ne12, F.rot3.ne13])) hn' hz' hy' (by omega) (by walk_at "room") hh ?_
    intro h₄ tk₄ root₄ tail₄ u1 u2 u3 nt₄ yss₄ zs₄ e₄ hx₄ R₄ ht₄ gt₄ hxt₄ hy₄ hz₄ hcat₄ hr4
    have F := F.only e₄ (by simp)
    walk_at "r"
    have e6 : n + 1 + (rest.length : Int) - (zs₄.length : Int) = n + 1 + (rest.length : Int) - (zs₄.length : Int) := rfl
    refine h x' _ _ (e₁.trans (e₂.trans F.keep)) ⟨dx', root₄, tail₄, _, _, u1, u2, u3, yss₄, zs₄, nt₄, hx₄, F.keep _ _ hdx₂, R₄, ht₄, ?_, rfl, hz₄, hy₄, ?_⟩ (.inr ⟨dx', root₄, tail₄, _, _, _, u1, u2, u3, hx₄, fun c hc4 => ?_, e₁.none (e₂.none (hid.none gt₄))⟩)
    · have q := congrArg List.length (hcat₄.trans (by rw [hcat]))
      simp only [List.length_append, flat_len hy₄, List.length_cons, List.length_nil] at q
      omega
    · rw [hcat₄, hcat]; simp
    · have q4 := R₄.nil_of hc4
      obtain ⟨q5, q6⟩ := hr4 q4
      rw [q5, hr1 q6, hroot]
end
section
variable {prog : Program} {w : World} {A : Around} {E : Value → Shared → Prop} {hp : Heap} {gs : Array GenState} {dr : Drawn} {tk : Nat} {os : OsState} {mg mb : Str → Option Value} {x dx : Addr} {sl : List (Option Value)} {Q : Value → Shared → Prop}
end
section
variable {prog : Program} {w : World} {A : Around} {E : Value → Shared → Prop} {hp : Heap} {gs : Array GenState} {dr : Drawn} {tk : Nat} {os : OsState} {mg mb : Str → Option Value} {x dx : Addr} {sl : List (Option Value)} {Q : Value → Shared → Prop}
theorem len_spec {n : Int} {root tail : Addr} {sh toff : Int} {t1 t2 t3 : Tok} (T : Tp (KK w) mg mb hp) (hx : hp.get? x = some (VO dx n root sh tail toff t1 t2 t3)) (hdx : hp.get? dx = some emptyDict)
    (hroom : A.depth < 900) (h : ∀ h' tk, Ext hp h' → Q (.int n t1) ⟨h', gs, dr, tk, os⟩) : wpAny (model prog w) A (call (.ref m_dunder_len) [.ref x]) Q E ⟨hp, gs, dr, tk, os⟩ := by
  refine wpAny_call ?_
  refine call_fx [] (binds := [(Str.ofString "self", .ref x)]) (by walk_at "room") (T.X _ _ (lk m_dunder_len (by kernel_rfl))) (by with_unfolding_all rfl) T.nolimit (codeRec_of T.X (by kernel_rfl)) (BindsTo.of_eq (by with_unfolding_all rfl)) (locs (by with_unfolding_all rfl)) (fun _ q => nomatch q) List.nodup_nil ?_ (by decide +kernel)
  intro L h₁ tk F
  have F : Fx hp L h₁ _ [] := F
  walk_at "r"
  exact h _ _ F.keep
end
section
variable {prog : Program} {w : World} {A : Around} {E : Value → Shared → Prop} {hp : Heap} {gs : Array GenState} {dr : Drawn} {tk : Nat} {os : OsState} {mg mb : Str → Option Value} {x dx : Addr} {sl : List (Option Value)} {Q : Value → Shared → Prop} {b : Heap} {L : Addr} {m : Str → Option Value} {own : List (Addr × Obj)}
theorem vec_tolist {xs : List Value} (T : Tp (KK w) mg mb hp) (V : VecAt hp x xs) (hn : xs.length ≤ 1000000) (hroom : A.depth < 700) (hh : A.handled = none)
    (h : ∀ D c h' tk, Ext hp h' → hp.get? D = none → h'.get? D = some (LO xs c) → Q (.ref D) ⟨h', gs, dr, tk, os⟩) : wpAny (model prog w) A (call (.ref m_tolist) [.ref x]) Q E ⟨hp, gs, dr, tk, os⟩ := by
  obtain ⟨dy, ry, ty, ny, oy, u1, u2, u3, yy, zy, nty, y1, y2, y3, y4, y5, y6, y7, y8, y9⟩ := id V
  refine tolist_spec (k := 1) T y1 y2 rfl y3.tree y4 (by omega) hh (by rw [y9, List.length_append] at hn; omega) ?_
  rw [← y9]
  exact h
end
/-- a row read at a place, from either end -/
def rowAt (ns : List Int) (k : Int) : Int := ns.getD (if k < 0 then k + ns.length else k).toNat 0
section
variable {prog : Program} {w : World} {A : Around} {E : Value → Shared → Prop} {hp : Heap} {gs : Array GenState} {dr : Drawn} {tk : Nat} {os : OsState} {mg mb : Str → Option Value} {x dx : Addr} {sl : List (Option Value)} {Q : Value → Shared → Prop}
theorem c_loc {M : Model} {scope : Scope} {cl : List (Str × Addr)} {C : Addr} {env : Env} {n : Str} {pos : Pos} {v : Value} {m : Str → Option Value} {s : Shared} (hn : s.heap.Ns C m) (hv : m n = some v) (h : Q v s)
    (hk : (compEnvC scope cl C env).scope.kind = .function := by with_unfolding_all rfl) (hx : (compEnvC scope cl C env).kindOf n = some .local := by with_unfolding_all rfl) (hd : (n == ("__debug__" : Str)) = false := by decide) :
    wpAny M A (eval (.Name n pos) (compEnvC scope cl C env)) Q E s := wpAny_Name (wpAny_loadName_local hk hx hn hv h) hd
theorem fi_len : findIn (KK w) (.ref aC) "__len__" = some (some (.ref m_dunder_len)) := by kernel_rfl
theorem ty_len : typeIn (KK w) (.ref m_dunder_len) = some (.type "function") := by kernel_rfl
theorem len_vec {xs : List Value} (T : Tp (KK w) mg mb hp) (V : VecAt hp x xs) (hn : xs.length ≤ 1000000) (hroom : A.depth < 800)
    (h : ∀ h' tk t, Ext hp h' → Q (.int xs.length t) ⟨h', gs, dr, tk, os⟩) : wpAny (model prog w) A (call (.builtin "len") [.ref x]) Q E ⟨hp, gs, dr, tk, os⟩ := by
  obtain ⟨dx, root, tail, n, toff, t1, t2, t3, hx, hdx, hlen⟩ := V.len
  refine Calls.call_function_entry kind_len plain_len entry_len (args_len1 _) ?_
  unfold Builtin.«len»
  refine wpAny_bind (m := oneArg "len" _) (wpAny_pure ?_)
  refine wpAny_bind (m := callSpecial? (.ref x) (Str.ofString "__len__")) (special_fn (s := ⟨hp, gs, dr, tk, os⟩) T.X (inst_of hx hdx) fi_len ty_len (len_spec T hx hdx (by walk_at "room") fun h' tk' e => ?_))
  refine wpAny_bind (wpAny_holding (wpAny_pure ?_))
  refine wpAny_bind (wpAny_letGo ?_)
  show wpAny _ _ (if n < 0 then _ else _) _ _ _
  rw [if_neg (by omega)]
  show wpAny _ _ (if n ≥ 2 ^ 63 then _ else _) _ _ _
  rw [if_neg (by omega)]
  rw [hlen]
  exact wpAny_bind (wpAny_mkInt (wpAny_pure ⟨_, rfl, h _ _ _ e⟩))
end
section
variable {prog : Program} {w : World} {A : Around} {R : Result → Shared → Prop} {hp : Heap} {gs : Array GenState} {dr : Drawn} {tk₀ : Nat} {os : OsState}
end
/-- objects that are no cell, no record, no namespace in use -/
def Solid (o : Obj) : Prop := (∀ v, o.data ≠ .cell v) ∧ (∀ vs, o.data ≠ .fields vs) ∧ (o = emptyDict ∨ ∀ es n, o.data ≠ .dict es n)
def Kp (h b : Heap) : Prop := ∀ c o, h.get? c = some o → Solid o → b.get? c = some o
def Odd (own : List (Addr × Obj)) : Prop := ∀ p ∈ own, (∃ v, p.2.data = .cell v) ∨ ∃ vs, p.2.data = .fields vs
theorem solid_list (its : List Value) (n : Nat) : Solid (LO its n) := ⟨fun _ q => (by cases q), fun _ q => (by cases q), .inr fun _ _ q => by cases q⟩
theorem solid_inst (dx : Addr) (sl : List (Option Value)) : Solid (IO dx sl) := ⟨fun _ q => (by cases q), fun _ q => (by cases q), .inr fun _ _ q => by cases q⟩
theorem solid_empty : Solid emptyDict := ⟨fun _ q => (by cases q), fun _ q => (by cases q), .inl rfl⟩
theorem Kp.list {h b : Heap} (k : Kp h b) {c : Addr} {its : List Value} {n : Nat} (e : h.get? c = some (LO its n)) : b.get? c = some (LO its n) := k c _ e (solid_list _ _)
theorem VecAt.kp {h b : Heap} {x : Addr} {xs : List Value} (V : VecAt h x xs) (k : Kp h b) : VecAt b x xs := by
  obtain ⟨dx, root, tail, n, toff, t1, t2, t3, yss, zs, nt, e1, e2, R, e4, r⟩ := V
  refine ⟨dx, root, tail, n, toff, t1, t2, t3, yss, zs, nt, k _ _ e1 (solid_inst _ _), k _ _ e2 solid_empty, ?_, k.list e4, r⟩
  obtain ⟨nr, cs, gr, hl, hk⟩ := R
  exact ⟨nr, cs, k.list gr, hl, fun q c ys hc hy => let ⟨nc, hcl⟩ := hk q c ys hc hy; ⟨nc, k.list hcl⟩⟩
/-- the head goes into the base -/
theorem Fx.sink {b h : Heap} {L a : Addr} {m : Str → Option Value} {o : Obj} {own : List (Addr × Obj)} (F : Fx b L h m ((a, o) :: own)) : ∃ b', Ext b b' ∧ Fx b' L h m own ∧ b'.get? a = some o := by
  obtain ⟨b', e, F', k, k2⟩ := F.freeze own (List.sublist_cons_self _ _)
  have nd := F.nodup
  simp only [List.map_cons, List.nodup_cons, List.mem_cons, not_or] at nd
  exact ⟨b', e, F', k a o (fun q => nd.1.1 q.symm) nd.2.1 F.head⟩
/-- all that is solid goes into the base, but for some -/
def Kpx (ex : List Addr) (h b : Heap) : Prop := ∀ c o, h.get? c = some o → Solid o → c ∉ ex → b.get? c = some o
theorem Fx.settlex {b h : Heap} {L : Addr} {m : Str → Option Value} {own own' : List (Addr × Obj)} {x : Str} {v : Value} (ex : List Addr) (F : Fx b L h m own) (hm : m x = some v) (hs : own'.Sublist own) (ho : ∀ p ∈ own', (∃ v, p.2.data = .cell v) ∨ (∃ vs, p.2.data = .fields vs) ∨ p.1 ∈ ex) :
    ∃ b', Ext b b' ∧ Fx b' L h m own' ∧ Kpx ex h b' := by
  obtain ⟨b', e, F', k, k2⟩ := F.freeze own' hs
  refine ⟨b', e, F', fun c o hc so hx => k c o (fun q => ?_) (fun q => ?_) hc⟩
  · subst q
    obtain ⟨oL, es, ep, gL, hd, hst, hf⟩ := F.ns
    rw [gL] at hc
    have := Option.some.inj hc
    subst this
    rcases so.2.2 with rfl | so
    · have e1 : es = #[] := by
        have : Data.dict #[] 0 = Data.dict es ep := hd
        cases this; rfl
      subst e1
      have := hf x
      rw [hm] at this
      simp [nsFind, findBy] at this
    · exact so _ _ hd
  · obtain ⟨p, hp, rfl⟩ := List.mem_map.mp q
    have := F'.has p hp
    rw [hc] at this
    have := Option.some.inj this
    rcases ho p hp with ⟨v, hv⟩ | ⟨vs, hv⟩ | hv
    · exact so.1 v (this ▸ hv)
    · exact so.2.1 vs (this ▸ hv)
    · exact hx hv
theorem Kpx.list {ex : List Addr} {h b : Heap} (k : Kpx ex h b) {c : Addr} {its : List Value} {n : Nat} (e : h.get? c = some (LO its n)) (hx : c ∉ ex) : b.get? c = some (LO its n) := k c _ e (solid_list _ _) hx
/-- a list whose first item refers to an object of a class, or to a list longer than the vector, is none of the vector's nodes -/
def Aside (h : Heap) (n : Nat) (D : Addr) : Prop := ∃ a rest e, h.get? D = some (LO (.ref a :: rest) e) ∧ ((∃ dx sl, h.get? a = some (IO dx sl)) ∨ ∃ its e', h.get? a = some (LO its e') ∧ n < its.length)
theorem ints_no_ref {vs : List Value} {ns : List Int} (hi : IntsAre vs ns) {a : Addr} (h : Value.ref a ∈ vs) : False := by
  obtain ⟨j, hj, e⟩ := List.getElem_of_mem h
  have hj' : j < ns.length := by rw [← hi.length]; exact hj
  obtain ⟨t, ht⟩ := hi.get j ns[j] (List.getElem?_eq_getElem hj')
  rw [List.getElem?_eq_getElem hj, e] at ht
  cases ht
theorem VecAt.kpx {ex : List Addr} {h b : Heap} {x : Addr} {xs : List Value} {ns : List Int} (V : VecAt h x xs) (k : Kpx ex h b) (hi : IntsAre xs ns) (ha : ∀ D ∈ ex, Aside h xs.length D) : VecAt b x xs := by
  obtain ⟨dx, root, tail, n, toff, t1, t2, t3, yss, zs, nt, e1, e2, R, e4, e5, e6, e7, e8, e9⟩ := V
  have inx : ∀ ys, ys ∈ yss → ∀ v, v ∈ ys → v ∈ xs := fun ys hys v hv => by
    rw [e9]; exact List.mem_append_left _ (List.mem_flatten.mpr ⟨ys, hys, hv⟩)
  have noleaf : ∀ c its m, h.get? c = some (LO its m) → (∀ v, v ∈ its → v ∈ xs) → c ∉ ex := fun c its m hc hsub hx => by
    obtain ⟨a, rest, e, hD, _⟩ := ha c hx
    rw [hc] at hD
    have : its.toArray = (Value.ref a :: rest).toArray := by
      have := Option.some.inj hD
      injection this with _ _ hd _
      injection hd
    have : its = Value.ref a :: rest := by simpa using this
    exact ints_no_ref hi (a := a) (hsub _ (by rw [this]; exact .head _))
  obtain ⟨nr, cs, gr, hl, hk⟩ := R
  have hroot : root ∉ ex := fun hx => by
    obtain ⟨a, rest, e, hD, hor⟩ := ha root hx
    rw [gr] at hD
    have q : (cs.map Value.ref).toArray = (Value.ref a :: rest).toArray := by
      have := Option.some.inj hD
      injection this with _ _ hd _
      injection hd
    have q : cs.map Value.ref = Value.ref a :: rest := by simpa using q
    cases cs with
    | nil => cases q
    | cons c cs =>
      have hca : c = a := by
        have := List.cons.inj q
        exact Value.ref.inj this.1
      subst hca
      obtain ⟨ys, hys⟩ : ∃ ys, yss[0]? = some ys := ⟨_, List.getElem?_eq_getElem (by rw [← hl]; simp)⟩
      obtain ⟨nc, hcl⟩ := hk 0 c ys rfl hys
      rcases hor with ⟨dx', sl, hio⟩ | ⟨its, e', hio, hlt⟩
      · rw [hcl] at hio
        have := Option.some.inj hio
        injection this with hc _ _ _
        cases hc
      · rw [hcl] at hio
        have q2 : ys.toArray = its.toArray := by
          have := Option.some.inj hio
          injection this with _ _ hd _
          injection hd
        have q2 : ys = its := by simpa using q2
        subst q2
        have hm : ys ∈ yss := List.mem_of_getElem? hys
        have : ys.length ≤ yss.flatten.length := by
          obtain ⟨l1, l2, e⟩ := List.append_of_mem hm
          rw [e]; simp only [List.flatten_append, List.flatten_cons, List.length_append]; omega
        rw [e9, List.length_append] at hlt
        omega
  have hxx : x ∉ ex := fun hx => by
    obtain ⟨a, rest, e, hD, _⟩ := ha x hx
    rw [e1] at hD
    have := Option.some.inj hD
    injection this with hc _ _ _
    cases hc
  have hdx : dx ∉ ex := fun hx => by
    obtain ⟨a, rest, e, hD, _⟩ := ha dx hx
    rw [e2] at hD
    have := Option.some.inj hD
    injection this with hc _ _ _
    injection hc with hc
    exact absurd hc (by decide)
  refine ⟨dx, root, tail, n, toff, t1, t2, t3, yss, zs, nt, k _ _ e1 (solid_inst _ _) hxx, k _ _ e2 solid_empty hdx, ⟨nr, cs, k.list gr hroot, hl, fun q c ys hc hy => ?_⟩, k.list e4 (noleaf _ _ _ e4 fun v hv => by rw [e9]; exact List.mem_append_right _ hv), e5, e6, e7, e8, e9⟩
  obtain ⟨nc, hcl⟩ := hk q c ys hc hy
  exact ⟨nc, k.list hcl (noleaf _ _ _ hcl fun v hv => inx ys (List.mem_of_getElem? hy) v hv)⟩
/-- rows of numbers by their first difference, else by their lengths -/
def ordI : List Int → List Int → Ordering
  | [], [] => .eq
  | [], _ :: _ => .lt
  | _ :: _, [] => .gt
  | a :: r, b :: t => if a == b then ordI r t else if a < b then .lt else .gt
/-- what a sign says of an order -/
def sayO : CmpOp → Ordering → Bool
  | .Lt, o => o == .lt
  | .LtE, o => o != .gt
  | .Eq, o => o == .eq
  | .NotEq, o => o != .eq
  | .Gt, o => o == .gt
  | .GtE, o => o != .lt
  | _, _ => false
theorem ordI_eq : ∀ (ns ms : List Int), ordI ns ms = .eq ↔ ns = ms
  | [], [] => by simp [ordI]
  | [], _ :: _ => by simp [ordI]
  | _ :: _, [] => by simp [ordI]
  | a :: r, b :: t => by
    unfold ordI
    by_cases h : a = b
    · rw [if_pos (by simpa using h), ordI_eq r t]; simp [h]
    · rw [if_neg (by simpa using h)]
      constructor
      · intro q; split at q <;> cases q
      · intro q; exact absurd (List.cons.inj q).1 h
namespace Lc
open AutoSeq1 (wpAny_loadPart')
open MeetsSeq
open MeetsSeq3 (plain_eq_loop entry_eq_loop)
inductive Code : CmpOp → Int → Prop
  | lt : Code .Lt 0
  | le : Code .LtE 1
  | gt : Code .Gt 4
  | ge : Code .GtE 5
theorem rc_int {op : CmpOp} {code : Int} (hc : Code op code) {prog : Program} {w : World} {A : Around} {E : Value → Shared → Prop} {s : Shared} {a b : Int} {t u : Tok} {Q : Value → Shared → Prop} (hne : a ≠ b)
    (h : Q (.bool (sayO op (if a < b then .lt else .gt))) s) : wpAny (model prog w) A (richCompare op (.int a t) (.int b u)) Q E s := by
  cases hc with
  | lt =>
    show wpAny _ _ (compareOp .Lt (.int a t) (.int b u)) _ _ _
    refine lt_int ?_
    have e : decide (a < b) = sayO .Lt (if a < b then .lt else .gt) := by by_cases q : a < b <;> simp [q, sayO]
    rw [e]; exact h
  | le =>
    show wpAny _ _ (compareOp .LtE (.int a t) (.int b u)) _ _ _
    refine le_int ?_
    have e : decide (a ≤ b) = sayO .LtE (if a < b then .lt else .gt) := by
      by_cases q : a < b
      · rw [if_pos q, decide_eq_true (by omega)]; rfl
      · rw [if_neg q, decide_eq_false (by omega)]; rfl
    rw [e]; exact h
  | gt =>
    show wpAny _ _ (compareOp .Gt (.int a t) (.int b u)) _ _ _
    refine gt_int ?_
    have e : decide (a > b) = sayO .Gt (if a < b then .lt else .gt) := by
      by_cases q : a < b
      · rw [if_pos q, decide_eq_false (by omega)]; rfl
      · rw [if_neg q, decide_eq_true (by omega)]; rfl
    rw [e]; exact h
  | ge =>
    show wpAny _ _ (compareOp .GtE (.int a t) (.int b u)) _ _ _
    refine ge_int ?_
    have e : decide (a ≥ b) = sayO .GtE (if a < b then .lt else .gt) := by
      by_cases q : a < b
      · rw [if_pos q, decide_eq_false (by omega)]; rfl
      · rw [if_neg q, decide_eq_true (by omega)]; rfl
    rw [e]; exact h
theorem drop_at {ns : List Int} {i : Nat} (h : i < ns.length) : ns.drop i = ns[i] :: ns.drop (i + 1) := List.drop_eq_getElem_cons h
def sizeO (m n : Nat) : Ordering := if m < n then .lt else if m = n then .eq else .gt
theorem ord_end {ns ms : List Int} {i : Nat} (h1 : i ≤ ns.length) (h2 : i ≤ ms.length) (h : i = ns.length ∨ i = ms.length) : ordI (ns.drop i) (ms.drop i) = sizeO ns.length ms.length := by
  have l1 : (ns.drop i).length = ns.length - i := List.length_drop
  have l2 : (ms.drop i).length = ms.length - i := List.length_drop
  generalize ns.drop i = r at l1 ⊢
  generalize ms.drop i = t at l2 ⊢
  unfold sizeO
  cases r with
  | nil =>
    cases t with
    | nil => simp at l1 l2; rw [if_neg (by omega), if_pos (by omega)]; rfl
    | cons a t => simp at l1 l2; rw [if_pos (by omega)]; rfl
  | cons a r =>
    cases t with
    | nil => simp at l1 l2; rw [if_neg (by omega), if_neg (by omega)]; rfl
    | cons b t => simp at l1 l2; omega
theorem say_lt (m n : Nat) : sayO .Lt (sizeO m n) = decide (m < n) := by
  unfold sizeO; by_cases h : m < n
  · simp [h, sayO]
  · by_cases q : m = n <;> simp [h, q, sayO]
theorem say_le (m n : Nat) : sayO .LtE (sizeO m n) = decide (m ≤ n) := by
  unfold sizeO; by_cases h : m < n
  · rw [if_pos h, decide_eq_true (by omega)]; rfl
  · by_cases q : m = n
    · rw [if_neg h, if_pos q, decide_eq_true (by omega)]; rfl
    · rw [if_neg h, if_neg q, decide_eq_false (by omega)]; rfl
theorem say_gt (m n : Nat) : sayO .Gt (sizeO m n) = decide (m > n) := by
  unfold sizeO; by_cases h : m < n
  · rw [if_pos h, decide_eq_false (by omega)]; rfl
  · by_cases q : m = n
    · rw [if_neg h, if_pos q, decide_eq_false (by omega)]; rfl
    · rw [if_neg h, if_neg q, decide_eq_true (by omega)]; rfl
theorem say_ge (m n : Nat) : sayO .GtE (sizeO m n) = decide (m ≥ n) := by
  unfold sizeO; by_cases h : m < n
  · rw [if_pos h, decide_eq_false (by omega)]; rfl
  · by_cases q : m = n
    · rw [if_neg h, if_pos q, decide_eq_true (by omega)]; rfl
    · rw [if_neg h, if_neg q, decide_eq_true (by omega)]; rfl
set_option maxHeartbeats 4000000 in
theorem ord_loop {op : CmpOp} {code : Int} (hc : Code op code) (l b : Addr) (items items2 : List Value) (ns ms : List Int) (n n2 : Nat) (hi : IntsAre items ns) (hj : IntsAre items2 ms) (k : Nat) :
    ∀ i : Nat, i ≤ ns.length → i ≤ ms.length → ns.length - i = k → Meets (Builtin.«list.__eq__.loop» ⟨[.ref l, .ref b, rawInt i, rawInt code], []⟩)
      (fun _ R s => s.heap.get? l = some (LO items n) ∧ s.heap.get? b = some (LO items2 n2) ∧ R (.ok (.ret (.bool (sayO op (ordI (ns.drop i) (ms.drop i)))))) s) := by
  have hl1 := hi.length
  have hl2 := hj.length
  induction k with
  | zero =>
    intro i h1 h2 hk prog w A R s h
    obtain ⟨hp, g, d, tk, os⟩ := s; obtain ⟨hl, hb, h⟩ := h
    rw [ord_end h1 h2 (.inl (by omega))] at h
    have hi1 : items.toArray[((i : Nat) : Int).toNat]? = none := by simp; omega
    cases hc
    · wp_walk using wpAny_loadPart' hl, wpAny_loadPart' hb
      rw [hi1]
      wp_walk using wpAny_loadPart' hl, wpAny_loadPart' hb
      show R (.ok (.ret (.bool (decide (items.toArray.size < items2.toArray.size))))) _; rw [say_lt] at h; simpa [hl1, hl2] using h
    · wp_walk using wpAny_loadPart' hl, wpAny_loadPart' hb
      rw [hi1]
      wp_walk using wpAny_loadPart' hl, wpAny_loadPart' hb
      show R (.ok (.ret (.bool (decide (items.toArray.size ≤ items2.toArray.size))))) _; rw [say_le] at h; simpa [hl1, hl2] using h
    · wp_walk using wpAny_loadPart' hl, wpAny_loadPart' hb
      rw [hi1]
      wp_walk using wpAny_loadPart' hl, wpAny_loadPart' hb
      show R (.ok (.ret (.bool (decide (items.toArray.size > items2.toArray.size))))) _; rw [say_gt] at h; simpa [hl1, hl2] using h
    · wp_walk using wpAny_loadPart' hl, wpAny_loadPart' hb
      rw [hi1]
      wp_walk using wpAny_loadPart' hl, wpAny_loadPart' hb
      show R (.ok (.ret (.bool (decide (items.toArray.size ≥ items2.toArray.size))))) _; rw [say_ge] at h; simpa [hl1, hl2] using h
  | succ k ih =>
    intro i h1 h2 hk prog w A R s h
    obtain ⟨hp, g, d, tk, os⟩ := s; obtain ⟨hl, hb, h⟩ := h
    have hlt : i < ns.length := by omega
    obtain ⟨t, ht⟩ := hi.get i ns[i] (List.getElem?_eq_getElem hlt)
    have hi1 : items.toArray[((i : Nat) : Int).toNat]? = some (.int ns[i] t) := by simpa using ht
    by_cases hlt2 : i < ms.length
    · obtain ⟨u, hu⟩ := hj.get i ms[i] (List.getElem?_eq_getElem hlt2)
      have hi2 : items2.toArray[((i : Nat) : Int).toNat]? = some (.int ms[i] u) := by simpa using hu
      have hcc : ((i : Int) + 1) = ((i + 1 : Nat) : Int) := by push_cast; rfl
      rw [drop_at hlt, drop_at hlt2, ordI] at h
      cases hb' : ns[i] == ms[i] with
      | true =>
        rw [hb', if_pos rfl] at h
        cases hc <;> (
          wp_walk using wpAny_loadPart' hl, wpAny_loadPart' hb
          rw [hi1, hi2]
          refine wpAny_bind (EqGives.int ns[i] ms[i] t u prog w _ _ _ _ ?_)
          rw [hb']
          wp_walk
          rw [hcc]
          exact ⟨plainId_quiet plain_eq_loop _, codeAny_builtin entry_eq_loop (by
            rw [Around.under_plainId plain_eq_loop _]
            exact ih (i + 1) (by omega) (by omega) (by omega) prog w A R _ ⟨hl, hb, h⟩)⟩)
      | false =>
        rw [hb', if_neg (by decide)] at h
        have hne : ns[i] ≠ ms[i] := by simpa using hb'
        cases hc <;> (
          wp_walk using wpAny_loadPart' hl, wpAny_loadPart' hb
          rw [hi1, hi2]
          refine wpAny_bind (EqGives.int ns[i] ms[i] t u prog w _ _ _ _ ?_)
          rw [hb']
          wp_walk using wpAny_loadPart' hl, wpAny_loadPart' hb
          rw [hi1, hi2]
          refine wpAny_bind (rc_int (by constructor) hne ?_)
          wp_walk
          exact h)
    · rw [ord_end h1 h2 (.inr (by omega))] at h
      have hi2 : items2.toArray[((i : Nat) : Int).toNat]? = none := by simp; omega
      cases hc
      · wp_walk using wpAny_loadPart' hl, wpAny_loadPart' hb
        rw [hi1, hi2]
        wp_walk using wpAny_loadPart' hl, wpAny_loadPart' hb
        show R (.ok (.ret (.bool (decide (items.toArray.size < items2.toArray.size))))) _; rw [say_lt] at h; simpa [hl1, hl2] using h
      · wp_walk using wpAny_loadPart' hl, wpAny_loadPart' hb
        rw [hi1, hi2]
        wp_walk using wpAny_loadPart' hl, wpAny_loadPart' hb
        show R (.ok (.ret (.bool (decide (items.toArray.size ≤ items2.toArray.size))))) _; rw [say_le] at h; simpa [hl1, hl2] using h
      · wp_walk using wpAny_loadPart' hl, wpAny_loadPart' hb
        rw [hi1, hi2]
        wp_walk using wpAny_loadPart' hl, wpAny_loadPart' hb
        show R (.ok (.ret (.bool (decide (items.toArray.size > items2.toArray.size))))) _; rw [say_gt] at h; simpa [hl1, hl2] using h
      · wp_walk using wpAny_loadPart' hl, wpAny_loadPart' hb
        rw [hi1, hi2]
        wp_walk using wpAny_loadPart' hl, wpAny_loadPart' hb
        show R (.ok (.ret (.bool (decide (items.toArray.size ≥ items2.toArray.size))))) _; rw [say_ge] at h; simpa [hl1, hl2] using h
end Lc
namespace Lc
section
variable {prog : Program} {w : World} {A : Around} {E : Value → Shared → Prop} {hp : Heap} {gs : Array GenState} {dr : Drawn} {tk : Nat} {os : OsState} {Q : Value → Shared → Prop}
theorem d_list_eq {l : Addr} {items : List Value} {n : Nat} {b tb : Value} (hl : hp.get? l = some (LO items n)) (hb : Looks (model prog w) hp (typeOf b) tb) (hs : Looks (model prog w) hp (isSubtype tb (.type "list")) false) (hQ : Q .notImplemented ⟨hp, gs, dr, tk, os⟩) :
    wpAny (model prog w) A (call (.builtin "list.__eq__") [.ref l, b]) Q E ⟨hp, gs, dr, tk, os⟩ := by
  refine wpAny_call_entry PySem.F.slot_list_eq (isList_of hl).typeIs PySem.F.entry_list_eq ?_ (PySem.F.args_list_eq_2 _ _)
  wp_walk
  refine hb.here (s := ⟨hp, gs, dr, tk, os⟩) (hs.here (s := ⟨hp, gs, dr, tk, os⟩) ?_)
  wp_walk
  exact ⟨_, rfl, hQ⟩
theorem d_tuple_eq {l : Addr} {b tb : Value} (hT : (⟨hp, gs, dr, tk, os⟩ : Shared).TypeIs (.ref l) "tuple") (hb : Looks (model prog w) hp (typeOf b) tb) (hs : Looks (model prog w) hp (isSubtype tb (.type "tuple")) false) (hQ : Q .notImplemented ⟨hp, gs, dr, tk, os⟩) :
    wpAny (model prog w) A (call (.builtin "tuple.__eq__") [.ref l, b]) Q E ⟨hp, gs, dr, tk, os⟩ := by
  refine wpAny_call_entry PySem.F.slot_tuple_eq hT PySem.F.entry_tuple_eq ?_ (PySem.F.args_tuple_eq_2 _ _)
  wp_walk
  refine hb.here (s := ⟨hp, gs, dr, tk, os⟩) (hs.here (s := ⟨hp, gs, dr, tk, os⟩) ?_)
  wp_walk
  exact ⟨_, rfl, hQ⟩
theorem d_int_eq {k : Int} {t : Tok} {b : Addr} {ob : Obj} (hb : hp.get? b = some ob) (hd : ∀ v, ob.data ≠ .prim v) (hQ : Q .notImplemented ⟨hp, gs, dr, tk, os⟩) :
    wpAny (model prog w) A (call (.builtin "int.__eq__") [.int k t, .ref b]) Q E ⟨hp, gs, dr, tk, os⟩ := by
  refine wpAny_call_entry PySem.F.slot_int_eq (typeIs_int _ k t) PySem.F.entry_int_eq ?_ (PySem.F.args_int_eq_2 _ _)
  wp_walk
  split
  · rename_i q; exact absurd q (hd _)
  wp_walk
  exact ⟨_, rfl, hQ⟩
theorem d_str_eq {k : Str} {t : Tok} {b : Addr} {ob : Obj} (hb : hp.get? b = some ob) (hd : ∀ v, ob.data ≠ .prim v) (hQ : Q .notImplemented ⟨hp, gs, dr, tk, os⟩) :
    wpAny (model prog w) A (call (.builtin "str.__eq__") [.str k t, .ref b]) Q E ⟨hp, gs, dr, tk, os⟩ := by
  refine wpAny_call_entry PySem.F.slot_str_eq (typeIs_str _ k t) PySem.F.entry_str_eq ?_ (PySem.F.args_str_eq_2 _ _)
  wp_walk
  split
  · rename_i q; exact absurd q (hd _)
  wp_walk
  exact ⟨_, rfl, hQ⟩
theorem d_NoneType_eq {b : Addr} (hQ : Q .notImplemented ⟨hp, gs, dr, tk, os⟩) :
    wpAny (model prog w) A (call (.builtin "NoneType.__eq__") [.none, .ref b]) Q E ⟨hp, gs, dr, tk, os⟩ := by
  refine wpAny_call_entry PySem.F.slot_NoneType_eq rfl PySem.F.entry_NoneType_eq ?_ (PySem.F.args_NoneType_eq_2 _ _)
  wp_walk
  exact ⟨_, rfl, hQ⟩
theorem d_list_ne {l : Addr} {items : List Value} {n : Nat} {b tb : Value} (hl : hp.get? l = some (LO items n)) (hb : Looks (model prog w) hp (typeOf b) tb) (hs : Looks (model prog w) hp (isSubtype tb (.type "list")) false) (hQ : Q .notImplemented ⟨hp, gs, dr, tk, os⟩) :
    wpAny (model prog w) A (call (.builtin "list.__ne__") [.ref l, b]) Q E ⟨hp, gs, dr, tk, os⟩ := by
  refine wpAny_call_entry PySem.F.slot_list_ne (isList_of hl).typeIs PySem.F.entry_list_ne ?_ (PySem.F.args_list_ne_2 _ _)
  wp_walk
  refine hb.here (s := ⟨hp, gs, dr, tk, os⟩) (hs.here (s := ⟨hp, gs, dr, tk, os⟩) ?_)
  wp_walk
  exact ⟨_, rfl, hQ⟩
theorem d_tuple_ne {l : Addr} {b tb : Value} (hT : (⟨hp, gs, dr, tk, os⟩ : Shared).TypeIs (.ref l) "tuple") (hb : Looks (model prog w) hp (typeOf b) tb) (hs : Looks (model prog w) hp (isSubtype tb (.type "tuple")) false) (hQ : Q .notImplemented ⟨hp, gs, dr, tk, os⟩) :
    wpAny (model prog w) A (call (.builtin "tuple.__ne__") [.ref l, b]) Q E ⟨hp, gs, dr, tk, os⟩ := by
  refine wpAny_call_entry PySem.F.slot_tuple_ne hT PySem.F.entry_tuple_ne ?_ (PySem.F.args_tuple_ne_2 _ _)
  wp_walk
  refine hb.here (s := ⟨hp, gs, dr, tk, os⟩) (hs.here (s := ⟨hp, gs, dr, tk, os⟩) ?_)
  wp_walk
  exact ⟨_, rfl, hQ⟩
theorem d_int_ne {k : Int} {t : Tok} {b : Addr} {ob : Obj} (hb : hp.get? b = some ob) (hd : ∀ v, ob.data ≠ .prim v) (hQ : Q .notImplemented ⟨hp, gs, dr, tk, os⟩) :
    wpAny (model prog w) A (call (.builtin "int.__ne__") [.int k t, .ref b]) Q E ⟨hp, gs, dr, tk, os⟩ := by
  refine wpAny_call_entry PySem.F.slot_int_ne (typeIs_int _ k t) PySem.F.entry_int_ne ?_ (PySem.F.args_int_ne_2 _ _)
  wp_walk
  split
  · rename_i q; exact absurd q (hd _)
  wp_walk
  exact ⟨_, rfl, hQ⟩
theorem d_str_ne {k : Str} {t : Tok} {b : Addr} {ob : Obj} (hb : hp.get? b = some ob) (hd : ∀ v, ob.data ≠ .prim v) (hQ : Q .notImplemented ⟨hp, gs, dr, tk, os⟩) :
    wpAny (model prog w) A (call (.builtin "str.__ne__") [.str k t, .ref b]) Q E ⟨hp, gs, dr, tk, os⟩ := by
  refine wpAny_call_entry PySem.F.slot_str_ne (typeIs_str _ k t) PySem.F.entry_str_ne ?_ (PySem.F.args_str_ne_2 _ _)
  wp_walk
  split
  · rename_i q; exact absurd q (hd _)
  wp_walk
  exact ⟨_, rfl, hQ⟩
theorem d_NoneType_ne {b : Addr} (hQ : Q .notImplemented ⟨hp, gs, dr, tk, os⟩) :
    wpAny (model prog w) A (call (.builtin "NoneType.__ne__") [.none, .ref b]) Q E ⟨hp, gs, dr, tk, os⟩ := by
  refine wpAny_call_entry PySem.F.slot_NoneType_ne rfl PySem.F.entry_NoneType_ne ?_ (PySem.F.args_NoneType_ne_2 _ _)
  wp_walk
  exact ⟨_, rfl, hQ⟩
theorem d_list_lt {l : Addr} {items : List Value} {n : Nat} {b tb : Value} (hl : hp.get? l = some (LO items n)) (hb : Looks (model prog w) hp (typeOf b) tb) (hs : Looks (model prog w) hp (isSubtype tb (.type "list")) false) (hQ : Q .notImplemented ⟨hp, gs, dr, tk, os⟩) :
    wpAny (model prog w) A (call (.builtin "list.__lt__") [.ref l, b]) Q E ⟨hp, gs, dr, tk, os⟩ := by
  refine wpAny_call_entry PySem.F.slot_list_lt (isList_of hl).typeIs PySem.F.entry_list_lt ?_ (PySem.F.args_list_lt_2 _ _)
  wp_walk
  refine hb.here (s := ⟨hp, gs, dr, tk, os⟩) (hs.here (s := ⟨hp, gs, dr, tk, os⟩) ?_)
  wp_walk
  exact ⟨_, rfl, hQ⟩
theorem d_tuple_lt {l : Addr} {b tb : Value} (hT : (⟨hp, gs, dr, tk, os⟩ : Shared).TypeIs (.ref l) "tuple") (hb : Looks (model prog w) hp (typeOf b) tb) (hs : Looks (model prog w) hp (isSubtype tb (.type "tuple")) false) (hQ : Q .notImplemented ⟨hp, gs, dr, tk, os⟩) :
    wpAny (model prog w) A (call (.builtin "tuple.__lt__") [.ref l, b]) Q E ⟨hp, gs, dr, tk, os⟩ := by
  refine wpAny_call_entry PySem.F.slot_tuple_lt hT PySem.F.entry_tuple_lt ?_ (PySem.F.args_tuple_lt_2 _ _)
  wp_walk
  refine hb.here (s := ⟨hp, gs, dr, tk, os⟩) (hs.here (s := ⟨hp, gs, dr, tk, os⟩) ?_)
  wp_walk
  exact ⟨_, rfl, hQ⟩
theorem d_int_lt {k : Int} {t : Tok} {b : Addr} {ob : Obj} (hb : hp.get? b = some ob) (hd : ∀ v, ob.data ≠ .prim v) (hQ : Q .notImplemented ⟨hp, gs, dr, tk, os⟩) :
    wpAny (model prog w) A (call (.builtin "int.__lt__") [.int k t, .ref b]) Q E ⟨hp, gs, dr, tk, os⟩ := by
  refine wpAny_call_entry PySem.F.slot_int_lt (typeIs_int _ k t) PySem.F.entry_int_lt ?_ (PySem.F.args_int_lt_2 _ _)
  wp_walk
  split
  · rename_i q; exact absurd q (hd _)
  wp_walk
  exact ⟨_, rfl, hQ⟩
theorem d_str_lt {k : Str} {t : Tok} {b : Addr} {ob : Obj} (hb : hp.get? b = some ob) (hd : ∀ v, ob.data ≠ .prim v) (hQ : Q .notImplemented ⟨hp, gs, dr, tk, os⟩) :
    wpAny (model prog w) A (call (.builtin "str.__lt__") [.str k t, .ref b]) Q E ⟨hp, gs, dr, tk, os⟩ := by
  refine wpAny_call_entry PySem.F.slot_str_lt (typeIs_str _ k t) PySem.F.entry_str_lt ?_ (PySem.F.args_str_lt_2 _ _)
  wp_walk
  split
  · rename_i q; exact absurd q (hd _)
  wp_walk
  exact ⟨_, rfl, hQ⟩
theorem d_NoneType_lt {b : Addr} (hQ : Q .notImplemented ⟨hp, gs, dr, tk, os⟩) :
    wpAny (model prog w) A (call (.builtin "NoneType.__lt__") [.none, .ref b]) Q E ⟨hp, gs, dr, tk, os⟩ := by
  refine wpAny_call_entry PySem.F.slot_NoneType_lt rfl PySem.F.entry_NoneType_lt ?_ (PySem.F.args_NoneType_lt_2 _ _)
  wp_walk
  exact ⟨_, rfl, hQ⟩
theorem d_list_le {l : Addr} {items : List Value} {n : Nat} {b tb : Value} (hl : hp.get? l = some (LO items n)) (hb : Looks (model prog w) hp (typeOf b) tb) (hs : Looks (model prog w) hp (isSubtype tb (.type "list")) false) (hQ : Q .notImplemented ⟨hp, gs, dr, tk, os⟩) :
    wpAny (model prog w) A (call (.builtin "list.__le__") [.ref l, b]) Q E ⟨hp, gs, dr, tk, os⟩ := by
  refine wpAny_call_entry PySem.F.slot_list_le (isList_of hl).typeIs PySem.F.entry_list_le ?_ (PySem.F.args_list_le_2 _ _)
  wp_walk
  refine hb.here (s := ⟨hp, gs, dr, tk, os⟩) (hs.here (s := ⟨hp, gs, dr, tk, os⟩) ?_)
  wp_walk
  exact ⟨_, rfl, hQ⟩
theorem d_tuple_le {l : Addr} {b tb : Value} (hT : (⟨hp, gs, dr, tk, os⟩ : Shared).TypeIs (.ref l) "tuple") (hb : Looks (model prog w) hp (typeOf b) tb) (hs : Looks (model prog w) hp (isSubtype tb (.type "tuple")) false) (hQ : Q .notImplemented ⟨hp, gs, dr, tk, os⟩) :
    wpAny (model prog w) A (call (.builtin "tuple.__le__") [.ref l, b]) Q E ⟨hp, gs, dr, tk, os⟩ := by
  refine wpAny_call_entry PySem.F.slot_tuple_le hT PySem.F.entry_tuple_le ?_ (PySem.F.args_tuple_le_2 _ _)
  wp_walk
  refine hb.here (s := ⟨hp, gs, dr, tk, os⟩) (hs.here (s := ⟨hp, gs, dr, tk, os⟩) ?_)
  wp_walk
  exact ⟨_, rfl, hQ⟩
theorem d_int_le {k : Int} {t : Tok} {b : Addr} {ob : Obj} (hb : hp.get? b = some ob) (hd : ∀ v, ob.data ≠ .prim v) (hQ : Q .notImplemented ⟨hp, gs, dr, tk, os⟩) :
    wpAny (model prog w) A (call (.builtin "int.__le__") [.int k t, .ref b]) Q E ⟨hp, gs, dr, tk, os⟩ := by
  refine wpAny_call_entry PySem.F.slot_int_le (typeIs_int _ k t) PySem.F.entry_int_le ?_ (PySem.F.args_int_le_2 _ _)
  wp_walk
  split
  · rename_i q; exact absurd q (hd _)
  wp_walk
  exact ⟨_, rfl, hQ⟩
theorem d_str_le {k : Str} {t : Tok} {b : Addr} {ob : Obj} (hb : hp.get? b = some ob) (hd : ∀ v, ob.data ≠ .prim v) (hQ : Q .notImplemented ⟨hp, gs, dr, tk, os⟩) :
    wpAny (model prog w) A (call (.builtin "str.__le__") [.str k t, .ref b]) Q E ⟨hp, gs, dr, tk, os⟩ := by
  refine wpAny_call_entry PySem.F.slot_str_le (typeIs_str _ k t) PySem.F.entry_str_le ?_ (PySem.F.args_str_le_2 _ _)
  wp_walk
  split
  · rename_i q; exact absurd q (hd _)
  wp_walk
  exact ⟨_, rfl, hQ⟩
theorem d_NoneType_le {b : Addr} (hQ : Q .notImplemented ⟨hp, gs, dr, tk, os⟩) :
    wpAny (model prog w) A (call (.builtin "NoneType.__le__") [.none, .ref b]) Q E ⟨hp, gs, dr, tk, os⟩ := by
  refine wpAny_call_entry PySem.F.slot_NoneType_le rfl PySem.F.entry_NoneType_le ?_ (PySem.F.args_NoneType_le_2 _ _)
  wp_walk
  exact ⟨_, rfl, hQ⟩
theorem d_list_gt {l : Addr} {items : List Value} {n : Nat} {b tb : Value} (hl : hp.get? l = some (LO items n)) (hb : Looks (model prog w) hp (typeOf b) tb) (hs : Looks (model prog w) hp (isSubtype tb (.type "list")) false) (hQ : Q .notImplemented ⟨hp, gs, dr, tk, os⟩) :
    wpAny (model prog w) A (call (.builtin "list.__gt__") [.ref l, b]) Q E ⟨hp, gs, dr, tk, os⟩ := by
  refine wpAny_call_entry PySem.F.slot_list_gt (isList_of hl).typeIs PySem.F.entry_list_gt ?_ (PySem.F.args_list_gt_2 _ _)
  wp_walk
  refine hb.here (s := ⟨hp, gs, dr, tk, os⟩) (hs.here (s := ⟨hp, gs, dr, tk, os⟩) ?_)
  wp_walk
  exact ⟨_, rfl, hQ⟩
theorem d_tuple_gt {l : Addr} {b tb : Value} (hT : (⟨hp, gs, dr, tk, os⟩ : Shared).TypeIs (.ref l) "tuple") (hb : Looks (model prog w) hp (typeOf b) tb) (hs : Looks (model prog w) hp (isSubtype tb (.type "tuple")) false) (hQ : Q .notImplemented ⟨hp, gs, dr, tk, os⟩) :
    wpAny (model prog w) A (call (.builtin "tuple.__gt__") [.ref l, b]) Q E ⟨hp, gs, dr, tk, os⟩ := by
  refine wpAny_call_entry PySem.F.slot_tuple_gt hT PySem.F.entry_tuple_gt ?_ (PySem.F.args_tuple_gt_2 _ _)
  wp_walk
  refine hb.here (s := ⟨hp, gs, dr, tk, os⟩) (hs.here (s := ⟨hp, gs, dr, tk, os⟩) ?_)
  wp_walk
  exact ⟨_, rfl, hQ⟩
theorem d_int_gt {k : Int} {t : Tok} {b : Addr} {ob : Obj} (hb : hp.get? b = some ob) (hd : ∀ v, ob.data ≠ .prim v) (hQ : Q .notImplemented ⟨hp, gs, dr, tk, os⟩) :
    wpAny (model prog w) A (call (.builtin "int.__gt__") [.int k t, .ref b]) Q E ⟨hp, gs, dr, tk, os⟩ := by
  refine wpAny_call_entry PySem.F.slot_int_gt (typeIs_int _ k t) PySem.F.entry_int_gt ?_ (PySem.F.args_int_gt_2 _ _)
  wp_walk
  split
  · rename_i q; exact absurd q (hd _)
  wp_walk
  exact ⟨_, rfl, hQ⟩
theorem d_str_gt {k : Str} {t : Tok} {b : Addr} {ob : Obj} (hb : hp.get? b = some ob) (hd : ∀ v, ob.data ≠ .prim v) (hQ : Q .notImplemented ⟨hp, gs, dr, tk, os⟩) :
    wpAny (model prog w) A (call (.builtin "str.__gt__") [.str k t, .ref b]) Q E ⟨hp, gs, dr, tk, os⟩ := by
  refine wpAny_call_entry PySem.F.slot_str_gt (typeIs_str _ k t) PySem.F.entry_str_gt ?_ (PySem.F.args_str_gt_2 _ _)
  wp_walk
  split
  · rename_i q; exact absurd q (hd _)
  wp_walk
  exact ⟨_, rfl, hQ⟩
theorem d_NoneType_gt {b : Addr} (hQ : Q .notImplemented ⟨hp, gs, dr, tk, os⟩) :
    wpAny (model prog w) A (call (.builtin "NoneType.__gt__") [.none, .ref b]) Q E ⟨hp, gs, dr, tk, os⟩ := by
  refine wpAny_call_entry PySem.F.slot_NoneType_gt rfl PySem.F.entry_NoneType_gt ?_ (PySem.F.args_NoneType_gt_2 _ _)
  wp_walk
  exact ⟨_, rfl, hQ⟩
theorem d_list_ge {l : Addr} {items : List Value} {n : Nat} {b tb : Value} (hl : hp.get? l = some (LO items n)) (hb : Looks (model prog w) hp (typeOf b) tb) (hs : Looks (model prog w) hp (isSubtype tb (.type "list")) false) (hQ : Q .notImplemented ⟨hp, gs, dr, tk, os⟩) :
    wpAny (model prog w) A (call (.builtin "list.__ge__") [.ref l, b]) Q E ⟨hp, gs, dr, tk, os⟩ := by
  refine wpAny_call_entry PySem.F.slot_list_ge (isList_of hl).typeIs PySem.F.entry_list_ge ?_ (PySem.F.args_list_ge_2 _ _)
  wp_walk
  refine hb.here (s := ⟨hp, gs, dr, tk, os⟩) (hs.here (s := ⟨hp, gs, dr, tk, os⟩) ?_)
  wp_walk
  exact ⟨_, rfl, hQ⟩
theorem d_tuple_ge {l : Addr} {b tb : Value} (hT : (⟨hp, gs, dr, tk, os⟩ : Shared).TypeIs (.ref l) "tuple") (hb : Looks (model prog w) hp (typeOf b) tb) (hs : Looks (model prog w) hp (isSubtype tb (.type "tuple")) false) (hQ : Q .notImplemented ⟨hp, gs, dr, tk, os⟩) :
    wpAny (model prog w) A (call (.builtin "tuple.__ge__") [.ref l, b]) Q E ⟨hp, gs, dr, tk, os⟩ := by
  refine wpAny_call_entry PySem.F.slot_tuple_ge hT PySem.F.entry_tuple_ge ?_ (PySem.F.args_tuple_ge_2 _ _)
  wp_walk
  refine hb.here (s := ⟨hp, gs, dr, tk, os⟩) (hs.here (s := ⟨hp, gs, dr, tk, os⟩) ?_)
  wp_walk
  exact ⟨_, rfl, hQ⟩
theorem d_int_ge {k : Int} {t : Tok} {b : Addr} {ob : Obj} (hb : hp.get? b = some ob) (hd : ∀ v, ob.data ≠ .prim v) (hQ : Q .notImplemented ⟨hp, gs, dr, tk, os⟩) :
    wpAny (model prog w) A (call (.builtin "int.__ge__") [.int k t, .ref b]) Q E ⟨hp, gs, dr, tk, os⟩ := by
  refine wpAny_call_entry PySem.F.slot_int_ge (typeIs_int _ k t) PySem.F.entry_int_ge ?_ (PySem.F.args_int_ge_2 _ _)
  wp_walk
  split
  · rename_i q; exact absurd q (hd _)
  wp_walk
  exact ⟨_, rfl, hQ⟩
theorem d_str_ge {k : Str} {t : Tok} {b : Addr} {ob : Obj} (hb : hp.get? b = some ob) (hd : ∀ v, ob.data ≠ .prim v) (hQ : Q .notImplemented ⟨hp, gs, dr, tk, os⟩) :
    wpAny (model prog w) A (call (.builtin "str.__ge__") [.str k t, .ref b]) Q E ⟨hp, gs, dr, tk, os⟩ := by
  refine wpAny_call_entry PySem.F.slot_str_ge (typeIs_str _ k t) PySem.F.entry_str_ge ?_ (PySem.F.args_str_ge_2 _ _)
  wp_walk
  split
  · rename_i q; exact absurd q (hd _)
  wp_walk
  exact ⟨_, rfl, hQ⟩
theorem d_NoneType_ge {b : Addr} (hQ : Q .notImplemented ⟨hp, gs, dr, tk, os⟩) :
    wpAny (model prog w) A (call (.builtin "NoneType.__ge__") [.none, .ref b]) Q E ⟨hp, gs, dr, tk, os⟩ := by
  refine wpAny_call_entry PySem.F.slot_NoneType_ge rfl PySem.F.entry_NoneType_ge ?_ (PySem.F.args_NoneType_ge_2 _ _)
  wp_walk
  exact ⟨_, rfl, hQ⟩
end
end Lc
namespace Lc
open AutoSeq1 (wpAny_loadPart')
open MeetsSeq3 (plain_eq_loop entry_eq_loop)
theorem list_lt (l b : Addr) (items items2 : List Value) (ns ms : List Int) (n n2 : Nat) (hi : IntsAre items ns) (hj : IntsAre items2 ms) : Meets (Builtin.«list.__lt__» ⟨[.ref l, .ref b], []⟩)
      (fun _ R s => s.heap.get? l = some (LO items n) ∧ s.heap.get? b = some (LO items2 n2) ∧ R (.ok (.ret (.bool (sayO .Lt (ordI ns ms))))) s) := by
  intro prog w A R s h
  obtain ⟨hp, g, d, tk, os⟩ := s; obtain ⟨hl, hb, h⟩ := h
  have f3 := AutoSeq1.sub_list_list
  wp_walk using wpAny_loadPart' hl, wpAny_loadPart' hb
  exact ⟨plainId_quiet plain_eq_loop _, codeAny_builtin entry_eq_loop (by
    rw [Around.under_plainId plain_eq_loop _]
    exact ord_loop .lt l b items items2 ns ms n n2 hi hj _ 0 (Nat.zero_le _) (Nat.zero_le _) rfl prog w A R _ ⟨hl, hb, h⟩)⟩
theorem list_le (l b : Addr) (items items2 : List Value) (ns ms : List Int) (n n2 : Nat) (hi : IntsAre items ns) (hj : IntsAre items2 ms) : Meets (Builtin.«list.__le__» ⟨[.ref l, .ref b], []⟩)
      (fun _ R s => s.heap.get? l = some (LO items n) ∧ s.heap.get? b = some (LO items2 n2) ∧ R (.ok (.ret (.bool (sayO .LtE (ordI ns ms))))) s) := by
  intro prog w A R s h
  obtain ⟨hp, g, d, tk, os⟩ := s; obtain ⟨hl, hb, h⟩ := h
  have f3 := AutoSeq1.sub_list_list
  wp_walk using wpAny_loadPart' hl, wpAny_loadPart' hb
  exact ⟨plainId_quiet plain_eq_loop _, codeAny_builtin entry_eq_loop (by
    rw [Around.under_plainId plain_eq_loop _]
    exact ord_loop .le l b items items2 ns ms n n2 hi hj _ 0 (Nat.zero_le _) (Nat.zero_le _) rfl prog w A R _ ⟨hl, hb, h⟩)⟩
theorem list_gt (l b : Addr) (items items2 : List Value) (ns ms : List Int) (n n2 : Nat) (hi : IntsAre items ns) (hj : IntsAre items2 ms) : Meets (Builtin.«list.__gt__» ⟨[.ref l, .ref b], []⟩)
      (fun _ R s => s.heap.get? l = some (LO items n) ∧ s.heap.get? b = some (LO items2 n2) ∧ R (.ok (.ret (.bool (sayO .Gt (ordI ns ms))))) s) := by
  intro prog w A R s h
  obtain ⟨hp, g, d, tk, os⟩ := s; obtain ⟨hl, hb, h⟩ := h
  have f3 := AutoSeq1.sub_list_list
  wp_walk using wpAny_loadPart' hl, wpAny_loadPart' hb
  exact ⟨plainId_quiet plain_eq_loop _, codeAny_builtin entry_eq_loop (by
    rw [Around.under_plainId plain_eq_loop _]
    exact ord_loop .gt l b items items2 ns ms n n2 hi hj _ 0 (Nat.zero_le _) (Nat.zero_le _) rfl prog w A R _ ⟨hl, hb, h⟩)⟩
theorem list_ge (l b : Addr) (items items2 : List Value) (ns ms : List Int) (n n2 : Nat) (hi : IntsAre items ns) (hj : IntsAre items2 ms) : Meets (Builtin.«list.__ge__» ⟨[.ref l, .ref b], []⟩)
      (fun _ R s => s.heap.get? l = some (LO items n) ∧ s.heap.get? b = some (LO items2 n2) ∧ R (.ok (.ret (.bool (sayO .GtE (ordI ns ms))))) s) := by
  intro prog w A R s h
  obtain ⟨hp, g, d, tk, os⟩ := s; obtain ⟨hl, hb, h⟩ := h
  have f3 := AutoSeq1.sub_list_list
  wp_walk using wpAny_loadPart' hl, wpAny_loadPart' hb
  exact ⟨plainId_quiet plain_eq_loop _, codeAny_builtin entry_eq_loop (by
    rw [Around.under_plainId plain_eq_loop _]
    exact ord_loop .ge l b items items2 ns ms n n2 hi hj _ 0 (Nat.zero_le _) (Nat.zero_le _) rfl prog w A R _ ⟨hl, hb, h⟩)⟩
theorem ord_lists {prog : Program} {w : World} {A : Around} {E : Value → Shared → Prop} {s : Shared} {Q : Value → Shared → Prop} {op : CmpOp} {code : Int} (hc : Code op code) {l b : Addr} {items items2 : List Value} {ns ms : List Int} {n n2 : Nat} (hl : s.heap.get? l = some (LO items n)) (hb : s.heap.get? b = some (LO items2 n2)) (hi : IntsAre items ns) (hj : IntsAre items2 ms) (hu : A.units < cLine)
    (h : Q (.bool (sayO op (ordI ns ms))) s) : wpAny (model prog w) A (richCompare op (.ref l) (.ref b)) Q E s := by
  cases hc
  · exact richCompare_meets_room (isList_of hl).typeIs (isList_of hb).typeIs PySem.F.slot_list_lt PySem.F.entry_list_lt (PySem.F.args_list_lt_2 _ _) (list_lt l b items items2 ns ms n n2 hi hj) ⟨hl, hb, ⟨nofun, h⟩⟩ hu
  · exact richCompare_meets_room (isList_of hl).typeIs (isList_of hb).typeIs PySem.F.slot_list_le PySem.F.entry_list_le (PySem.F.args_list_le_2 _ _) (list_le l b items items2 ns ms n n2 hi hj) ⟨hl, hb, ⟨nofun, h⟩⟩ hu
  · exact richCompare_meets_room (isList_of hl).typeIs (isList_of hb).typeIs PySem.F.slot_list_gt PySem.F.entry_list_gt (PySem.F.args_list_gt_2 _ _) (list_gt l b items items2 ns ms n n2 hi hj) ⟨hl, hb, ⟨nofun, h⟩⟩ hu
  · exact richCompare_meets_room (isList_of hl).typeIs (isList_of hb).typeIs PySem.F.slot_list_ge PySem.F.entry_list_ge (PySem.F.args_list_ge_2 _ _) (list_ge l b items items2 ns ms n n2 hi hj) ⟨hl, hb, ⟨nofun, h⟩⟩ hu
end Lc
theorem fi_eq : findIn (KK w) (.ref aC) "__eq__" = some (some (.ref m_dunder_eq)) := by kernel_rfl
theorem fi_ne : findIn (KK w) (.ref aC) "__ne__" = some (some (.ref m_dunder_ne)) := by kernel_rfl
theorem fi_lt : findIn (KK w) (.ref aC) "__lt__" = some (some (.ref m_dunder_lt)) := by kernel_rfl
theorem fi_le : findIn (KK w) (.ref aC) "__le__" = some (some (.ref m_dunder_le)) := by kernel_rfl
theorem fi_gt : findIn (KK w) (.ref aC) "__gt__" = some (some (.ref m_dunder_gt)) := by kernel_rfl
theorem fi_ge : findIn (KK w) (.ref aC) "__ge__" = some (some (.ref m_dunder_ge)) := by kernel_rfl
theorem ty_eq : isFn (KK w) (.ref m_dunder_eq) = true := by kernel_rfl
theorem ty_ne : isFn (KK w) (.ref m_dunder_ne) = true := by kernel_rfl
theorem ty_lt : isFn (KK w) (.ref m_dunder_lt) = true := by kernel_rfl
theorem ty_le : isFn (KK w) (.ref m_dunder_le) = true := by kernel_rfl
theorem ty_gt : isFn (KK w) (.ref m_dunder_gt) = true := by kernel_rfl
theorem ty_ge : isFn (KK w) (.ref m_dunder_ge) = true := by kernel_rfl
theorem nf_own : notFirst (KK w) aC (.ref aC) = true := by kernel_rfl
theorem nf_list : notFirst (KK w) aC (.type "list") = true := by kernel_rfl
theorem nf_tuple : notFirst (KK w) aC (.type "tuple") = true := by kernel_rfl
theorem nf_int : notFirst (KK w) aC (.type "int") = true := by kernel_rfl
theorem nf_str : notFirst (KK w) aC (.type "str") = true := by kernel_rfl
theorem nf_none : notFirst (KK w) aC (.type "NoneType") = true := by kernel_rfl
theorem sb_list : subIn (KK w) (.ref aC) (.type "list") = some false := by kernel_rfl
theorem sb_tuple : subIn (KK w) (.ref aC) (.type "tuple") = some false := by kernel_rfl
theorem sb_int : subIn (KK w) (.ref aC) (.type "int") = some false := by kernel_rfl
theorem sb_str : subIn (KK w) (.ref aC) (.type "str") = some false := by kernel_rfl
theorem sb_none : subIn (KK w) (.ref aC) (.type "NoneType") = some false := by kernel_rfl
section
variable {prog : Program} {w : World} {A : Around} {E : Value → Shared → Prop} {hp : Heap} {gs : Array GenState} {dr : Drawn} {tk : Nat} {os : OsState} {mg mb : Str → Option Value} {x dx f : Addr} {sl : List (Option Value)} {Q : Value → Shared → Prop}
/-- a sign asked of a vector first: its own method answers -/
theorem own_left {op : CmpOp} {b tb : Value} (X : (KK w).In hp) (hx : hp.get? x = some (IO dx sl)) (hdx : hp.get? dx = some emptyDict) (hu : A.units < cLine) (hb : Looks (model prog w) hp (typeOf b) tb) (hn : notFirst (KK w) aC tb = true)
    (hs : findIn (KK w) (.ref aC) (cmpInfo op).2.1 = some (some (.ref f))) (hf : isFn (KK w) (.ref f) = true)
    (h : wpAny (model prog w) A (call (.ref f) [.ref x, b]) (W.CmpBack Q) E ⟨hp, gs, dr, tk, os⟩) : wpAny (model prog w) A (richCompare op (.ref x) b) Q E ⟨hp, gs, dr, tk, os⟩ := by
  have I := inst_of hx hdx
  have one : wpAny (model prog w) A (tryCompare (.ref x) (cmpInfo op).2.1 b) (fun r s' => ∃ v, r = some v ∧ Q v s') E ⟨hp, gs, dr, tk, os⟩ := by
    unfold tryCompare
    refine wpAny_bind (ifBound_K (s := ⟨hp, gs, dr, tk, os⟩) X I hs hf (wpAny_mono h (fun v s' hv => ?_) fun _ _ e => e))
    cases v <;> first | exact hv.elim | exact wpAny_pure ⟨_, rfl, hv⟩
  have L0 := I.type (M := model prog w)
  unfold richCompare
  simp only [oneThing_ref]
  refine wpAny_holding (wpAny_bind (wpAny_cRoomFor hu (wpAny_bind (L0.here (s := ⟨hp, gs, dr, tk, os⟩) (wpAny_bind (hb.here (s := ⟨hp, gs, dr, tk, os⟩) ?_))))))
  split
  · rename_i q
    have e : subIn (KK w) tb (.ref aC) = some false := by
      rcases Bool.or_eq_true_iff.mp hn with e | e
      · rw [beq_iff_eq.mp e] at q; simp at q
      · exact beq_iff_eq.mp e
    refine wpAny_bind ((looks_subIn X e).here (s := ⟨hp, gs, dr, tk, os⟩) ?_)
    rw [if_neg (by decide)]
    refine wpAny_bind (wpAny_mono one (fun r s' z => ?_) fun _ _ e => e)
    obtain ⟨v, rfl, hq⟩ := z
    exact wpAny_pure hq
  · refine wpAny_bind (wpAny_pure ?_)
    rw [if_neg (by decide)]
    refine wpAny_bind (wpAny_mono one (fun r s' z => ?_) fun _ _ e => e)
    obtain ⟨v, rfl, hq⟩ := z
    exact wpAny_pure hq
/-- a sign asked of a thing of a built-in class that declines: the vector's own method, turned, answers -/
theorem own_right {op : CmpOp} {a : Value} {Ta ida : String} (X : (KK w).In hp) (hx : hp.get? x = some (IO dx sl)) (hdx : hp.get? dx = some emptyDict) (hu : A.units < cLine) (ha : (⟨hp, gs, dr, tk, os⟩ : Shared).TypeIs a Ta) (hsub : subIn (KK w) (.ref aC) (.type Ta) = some false)
    (slot : Slot Ta (cmpInfo op).2.1 ida) (hd : ∀ (Q : Value → Shared → Prop) (E : Value → Shared → Prop), Q .notImplemented ⟨hp, gs, dr, tk, os⟩ → wpAny (model prog w) A (call (.builtin ida) [a, .ref x]) Q E ⟨hp, gs, dr, tk, os⟩)
    (hs : findIn (KK w) (.ref aC) (cmpInfo op).2.2 = some (some (.ref f))) (hf : isFn (KK w) (.ref f) = true)
    (h : wpAny (model prog w) A (call (.ref f) [.ref x, a]) (W.CmpBack Q) E ⟨hp, gs, dr, tk, os⟩) : wpAny (model prog w) A (richCompare op a (.ref x)) Q E ⟨hp, gs, dr, tk, os⟩ := by
  have I := inst_of hx hdx
  have one : wpAny (model prog w) A (tryCompare (.ref x) (cmpInfo op).2.2 a) (fun r s' => ∃ v, r = some v ∧ Q v s') E ⟨hp, gs, dr, tk, os⟩ := by
    unfold tryCompare
    refine wpAny_bind (ifBound_K (s := ⟨hp, gs, dr, tk, os⟩) X I hs hf (wpAny_mono h (fun v s' hv => ?_) fun _ _ e => e))
    cases v <;> first | exact hv.elim | exact wpAny_pure ⟨_, rfl, hv⟩
  have L0 := I.type (M := model prog w)
  unfold richCompare
  simp only [ha.oneThing_none]
  refine wpAny_holding (wpAny_bind (wpAny_cRoomFor hu (wpAny_bind (wpAny_typeOf ha (wpAny_bind (L0.here (s := ⟨hp, gs, dr, tk, os⟩) ?_))))))
  rw [if_pos (by simp)]
  refine wpAny_bind ((looks_subIn X hsub).here (s := ⟨hp, gs, dr, tk, os⟩) ?_)
  rw [if_neg (by decide)]
  refine wpAny_bind (m := tryCompare a _ (.ref x)) (wpAny_tryCompare_declines ha slot (hd _ _ ⟨rfl, ?_⟩))
  dsimp only
  rw [if_pos (by decide)]
  refine wpAny_bind (wpAny_mono one (fun r s' z => ?_) fun _ _ e => e)
  obtain ⟨v, rfl, hq⟩ := z
  exact wpAny_pure hq
/-- a list and a thing of another built-in class: neither answers, the order is refused -/
theorem list_refused {op : CmpOp} {code : Int} (hc : Lc.Code op code) {l : Addr} {b : Value} {Tb ida idb : String} (hh : A.handled = none) (hu : A.units < cLine) (hl : (⟨hp, gs, dr, tk, os⟩ : Shared).TypeIs (.ref l) "list") (hb : (⟨hp, gs, dr, tk, os⟩ : Shared).TypeIs b Tb)
    (hne : (Value.type "list" != Value.type Tb) = true) (hsub : isSubtype (.type Tb) (.type "list") = pure false) (s1 : Slot "list" (cmpInfo op).2.1 ida) (s2 : Slot Tb (cmpInfo op).2.2 idb) (hnb : (Value.type Tb == Value.type "builtin_function_or_method") = false)
    (d1 : ∀ (Q : Value → Shared → Prop) (E : Value → Shared → Prop), Q .notImplemented ⟨hp, gs, dr, tk, os⟩ → wpAny (model prog w) A (call (.builtin ida) [.ref l, b]) Q E ⟨hp, gs, dr, tk, os⟩)
    (d2 : ∀ (Q : Value → Shared → Prop) (E : Value → Shared → Prop), Q .notImplemented ⟨hp, gs, dr, tk, os⟩ → wpAny (model prog w) A (call (.builtin idb) [b, .ref l]) Q E ⟨hp, gs, dr, tk, os⟩)
    (hTb : (shownName Tb).length ≤ 1000) (h : ∀ h' tk' e, Heap.NewExc hp h' e "TypeError" → E (.ref e) ⟨h', gs, dr, tk', os⟩) : wpAny (model prog w) A (richCompare op (.ref l) b) Q E ⟨hp, gs, dr, tk, os⟩ := by
  unfold richCompare
  simp only [hl.oneThing_none]
  refine wpAny_holding (wpAny_bind (wpAny_cRoomFor hu (wpAny_bind (wpAny_typeOf hl (wpAny_bind (wpAny_typeOf hb ?_))))))
  rw [if_pos hne]
  refine wpAny_bind (wpAny_of_eq hsub ?_)
  rw [if_neg (by decide)]
  refine wpAny_bind (m := tryCompare (.ref l) _ b) (wpAny_tryCompare_declines hl s1 (d1 _ _ ⟨rfl, ?_⟩))
  dsimp only
  rw [if_pos (by decide)]
  refine wpAny_bind (m := tryCompare b _ (.ref l)) (wpAny_tryCompare_declines hb s2 (d2 _ _ ⟨rfl, ?_⟩))
  have hz : ("'" ++ (cmpInfo op).1 ++ "' not supported between instances of '" ++ shownName "list" ++ "' and '" ++ shownName Tb ++ "'").length ≤ 5000 := by
    have e0 : (cmpInfo op).1.length ≤ 10 := by cases hc <;> decide
    have e1 : "'".length ≤ 100 := by decide
    have e3 : "' not supported between instances of '".length ≤ 100 := by decide
    have e4 : "' and '".length ≤ 100 := by decide
    have e5 : (shownName "list").length ≤ 1000 := by decide
    simp only [String.length_append]
    omega
  cases hc <;> (
    refine wpAny_bind (wpAny_rule (wpAny_bind (wpAny_typeNameOf' hl (by decide) (wpAny_bind (wpAny_typeNameOf' hb hnb (wpAny_raiseTypeError hh h ?_))))))
    rw [PySem.ofString_length, sizeLine_eq]
    exact Nat.le_trans hz (by decide))
/-- a list and a thing of another built-in class are unequal -/
theorem list_unequal {l : Addr} {b : Value} {Tb ida idb : String} (hu : A.units < cLine) (hl : (⟨hp, gs, dr, tk, os⟩ : Shared).TypeIs (.ref l) "list") (hb : (⟨hp, gs, dr, tk, os⟩ : Shared).TypeIs b Tb)
    (hne : (Value.type "list" != Value.type Tb) = true) (hsub : isSubtype (.type Tb) (.type "list") = pure false) (s1 : Slot "list" (cmpInfo .Eq).2.1 ida) (s2 : Slot Tb (cmpInfo .Eq).2.2 idb)
    (d1 : ∀ (Q : Value → Shared → Prop) (E : Value → Shared → Prop), Q .notImplemented ⟨hp, gs, dr, tk, os⟩ → wpAny (model prog w) A (call (.builtin ida) [.ref l, b]) Q E ⟨hp, gs, dr, tk, os⟩)
    (d2 : ∀ (Q : Value → Shared → Prop) (E : Value → Shared → Prop), Q .notImplemented ⟨hp, gs, dr, tk, os⟩ → wpAny (model prog w) A (call (.builtin idb) [b, .ref l]) Q E ⟨hp, gs, dr, tk, os⟩)
    (hs : wpAny (model prog w) A (isSame (.ref l) b) (fun r s' => r = false ∧ s' = ⟨hp, gs, dr, tk, os⟩) E ⟨hp, gs, dr, tk, os⟩) (h : Q (.bool false) ⟨hp, gs, dr, tk, os⟩) : wpAny (model prog w) A (richCompare .Eq (.ref l) b) Q E ⟨hp, gs, dr, tk, os⟩ := by
  unfold richCompare
  simp only [hl.oneThing_none]
  refine wpAny_holding (wpAny_bind (wpAny_cRoomFor hu (wpAny_bind (wpAny_typeOf hl (wpAny_bind (wpAny_typeOf hb ?_))))))
  rw [if_pos hne]
  refine wpAny_bind (wpAny_of_eq hsub ?_)
  rw [if_neg (by decide)]
  refine wpAny_bind (m := tryCompare (.ref l) _ b) (wpAny_tryCompare_declines hl s1 (d1 _ _ ⟨rfl, ?_⟩))
  dsimp only
  rw [if_pos (by decide)]
  refine wpAny_bind (m := tryCompare b _ (.ref l)) (wpAny_tryCompare_declines hb s2 (d2 _ _ ⟨rfl, ?_⟩))
  refine wpAny_bind (wpAny_rule (wpAny_bind (wpAny_mono hs (fun r s' z => ?_) fun _ _ e => e)))
  obtain ⟨rfl, rfl⟩ := z
  exact wpAny_pure h
/-- two lists of numbers by the operator module's own functions -/
theorem op_two {op : CmpOp} {id short : String} {a b : Value} {B : Builtin} (hk : builtinKind id = none) (hp' : plainId id = true) (he : entryFor table id = some B) (ha : argsOk id ⟨[a, b], []⟩)
    (hB : B ⟨[a, b], []⟩ = (richCompare op a b >>= fun v => ret v))
    (h : wpAny (model prog w) A.in1 (richCompare op a b) Q E ⟨hp, gs, dr, tk, os⟩) : wpAny (model prog w) A (call (.builtin id) [a, b]) Q E ⟨hp, gs, dr, tk, os⟩ := by
  refine Calls.call_function_entry hk hp' he ha ?_
  rw [hB]
  exact wpAny_bind (wpAny_mono h (fun v s' z => wpAny_pure ⟨_, rfl, z⟩) fun _ _ e => e)
theorem op_eq {a b : Value} (h : wpAny (model prog w) A.in1 (richCompare .Eq a b) Q E ⟨hp, gs, dr, tk, os⟩) : wpAny (model prog w) A (call (.builtin "_operator.eq") [a, b]) Q E ⟨hp, gs, dr, tk, os⟩ := by
  refine op_two (op := .Eq) (short := "eq") (B := Builtin.«_operator.eq») (by decide +kernel) (by decide +kernel) (entryFor_of_tree (by kernel_rfl)) ?_ rfl h
  unfold argsOk; kernel_rfl
theorem op_lt {a b : Value} (h : wpAny (model prog w) A.in1 (richCompare .Lt a b) Q E ⟨hp, gs, dr, tk, os⟩) : wpAny (model prog w) A (call (.builtin "_operator.lt") [a, b]) Q E ⟨hp, gs, dr, tk, os⟩ := by
  refine op_two (op := .Lt) (short := "lt") (B := Builtin.«_operator.lt») (by decide +kernel) (by decide +kernel) (entryFor_of_tree (by kernel_rfl)) ?_ rfl h
  unfold argsOk; kernel_rfl
theorem op_le {a b : Value} (h : wpAny (model prog w) A.in1 (richCompare .LtE a b) Q E ⟨hp, gs, dr, tk, os⟩) : wpAny (model prog w) A (call (.builtin "_operator.le") [a, b]) Q E ⟨hp, gs, dr, tk, os⟩ := by
  refine op_two (op := .LtE) (short := "le") (B := Builtin.«_operator.le») (by decide +kernel) (by decide +kernel) (entryFor_of_tree (by kernel_rfl)) ?_ rfl h
  unfold argsOk; kernel_rfl
theorem op_gt {a b : Value} (h : wpAny (model prog w) A.in1 (richCompare .Gt a b) Q E ⟨hp, gs, dr, tk, os⟩) : wpAny (model prog w) A (call (.builtin "_operator.gt") [a, b]) Q E ⟨hp, gs, dr, tk, os⟩ := by
  refine op_two (op := .Gt) (short := "gt") (B := Builtin.«_operator.gt») (by decide +kernel) (by decide +kernel) (entryFor_of_tree (by kernel_rfl)) ?_ rfl h
  unfold argsOk; kernel_rfl
theorem op_ge {a b : Value} (h : wpAny (model prog w) A.in1 (richCompare .GtE a b) Q E ⟨hp, gs, dr, tk, os⟩) : wpAny (model prog w) A (call (.builtin "_operator.ge") [a, b]) Q E ⟨hp, gs, dr, tk, os⟩ := by
  refine op_two (op := .GtE) (short := "ge") (B := Builtin.«_operator.ge») (by decide +kernel) (by decide +kernel) (entryFor_of_tree (by kernel_rfl)) ?_ rfl h
  unfold argsOk; kernel_rfl
end
local macro_rules | `(tactic| walk_at "units") => `(tactic| (simp only [Around.deeper, Around.in1, Around.mark]; omega))
section
variable {prog : Program} {w : World} {A : Around} {E : Value → Shared → Prop} {hp : Heap} {gs : Array GenState} {dr : Drawn} {tk : Nat} {os : OsState} {mg mb : Str → Option Value} {x y dx f : Addr} {sl : List (Option Value)} {Q : Value → Shared → Prop}
set_option maxHeartbeats 4000000 in
/-- compare_pvector with one of the operator module's functions, the other side being no vector -/
theorem cmp_plain {id : String} {other : Value} {xs : List Value} (T : Tp (KK w) mg mb hp) (V : VecAt hp x xs) (hz : xs.length ≤ 1000) (hroom : A.depth < 380) (hh : A.handled = none)
    (hin : ∀ (A : Around) (Q E : Value → Shared → Prop) (h' : Heap) tk, Ext hp h' → (∀ tk', Q (.bool false) ⟨h', gs, dr, tk', os⟩) → wpAny (model prog w) A (call (.builtin "isinstance") [other, .ref aC]) Q E ⟨h', gs, dr, tk, os⟩)
    (hc : ∀ (A' : Around) (E' : Value → Shared → Prop) h' tk' D c, A'.units ≤ A.units + 10 → A'.handled = none → Ext hp h' → h'.get? D = some (LO xs c) → wpAny (model prog w) A' (call (.builtin id) [.ref D, other]) (fun v s' => ∃ h'' tk'', s' = ⟨h'', gs, dr, tk'', os⟩ ∧ Q v ⟨h'', gs, dr, tk'', os⟩) E' ⟨h', gs, dr, tk', os⟩) :
    wpAny (model prog w) A (call (.ref g_compare_pvector) [.ref x, other, .builtin id]) Q E ⟨hp, gs, dr, tk, os⟩ := by
  obtain ⟨dx, root, tail, n, toff, t1, t2, t3, hx, hdx, _⟩ := V.len
  refine wpAny_call ?_
  refine call_fx [] (binds := [(Str.ofString "v", .ref x), (Str.ofString "other", other), (Str.ofString "operator", .builtin id)]) (by walk_at "room") (T.X _ _ (lk g_compare_pvector (by kernel_rfl))) (by with_unfolding_all rfl) T.nolimit (codeRec_of T.X (by kernel_rfl)) (BindsTo.of_eq (by with_unfolding_all rfl)) (locs (by with_unfolding_all rfl)) (fun _ q => nomatch q) List.nodup_nil ?_ (by decide +kernel)
  intro L h₁ tk F
  have F : Fx hp L h₁ _ [] := F
  walk_at "r"
  refine gm_tolist (T.up F.keep).X (F.keep _ _ hx) (F.keep _ _ hdx) ?_
  refine cw_fn0 T F.keep (by kernel_rfl) ?_
  refine vec_tolist (T.up F.keep) (V.up F.keep) (by omega) (by walk_at "room") hh ?_
  intro D c h2 tk2 e2 hDn hD
  replace F := F.gain e2 hDn hD
  walk_at "r"
  refine IfExp_ ?_
  walk_at "r"
  refine hin _ _ _ _ _ F.keep fun tk' => ?_
  walk_at "r"
  rw [if_neg (by decide)]
  walk_at "r"
  refine wpAny_mono (hc _ _ _ _ D c (by walk_at "units") hh F.keep hD) (fun v s' z => ?_) fun _ _ z => z
  obtain ⟨h'', tk'', rfl, hq⟩ := z
  walk_at "r"
  exact hq
set_option maxHeartbeats 4000000 in
/-- the same with a second vector -/
theorem cmp_vec {id : String} {xs ys : List Value} (T : Tp (KK w) mg mb hp) (V : VecAt hp x xs) (W : VecAt hp y ys) (hz : xs.length ≤ 1000) (hz2 : ys.length ≤ 1000) (hroom : A.depth < 380) (hh : A.handled = none)
    (hc : ∀ (A' : Around) (E' : Value → Shared → Prop) h' tk' D D2 c c2, A'.units ≤ A.units + 10 → A'.handled = none → Ext hp h' → h'.get? D = some (LO xs c) → h'.get? D2 = some (LO ys c2) → wpAny (model prog w) A' (call (.builtin id) [.ref D, .ref D2]) (fun v s' => ∃ h'' tk'', s' = ⟨h'', gs, dr, tk'', os⟩ ∧ Q v ⟨h'', gs, dr, tk'', os⟩) E' ⟨h', gs, dr, tk', os⟩) :
    wpAny (model prog w) A (call (.ref g_compare_pvector) [.ref x, .ref y, .builtin id]) Q E ⟨hp, gs, dr, tk, os⟩ := by
  obtain ⟨dx, root, tail, n, toff, t1, t2, t3, hx, hdx, _⟩ := V.len
  obtain ⟨dy, _, _, _, _, _, _, _, hy, hdy, _⟩ := W.len
  refine wpAny_call ?_
  refine call_fx [] (binds := [(Str.ofString "v", .ref x), (Str.ofString "other", .ref y), (Str.ofString "operator", .builtin id)]) (by walk_at "room") (T.X _ _ (lk g_compare_pvector (by kernel_rfl))) (by with_unfolding_all rfl) T.nolimit (codeRec_of T.X (by kernel_rfl)) (BindsTo.of_eq (by with_unfolding_all rfl)) (locs (by with_unfolding_all rfl)) (fun _ q => nomatch q) List.nodup_nil ?_ (by decide +kernel)
  intro L h₁ tk F
  have F : Fx hp L h₁ _ [] := F
  walk_at "r"
  refine gm_tolist (T.up F.keep).X (F.keep _ _ hx) (F.keep _ _ hdx) ?_
  refine cw_fn0 T F.keep (by kernel_rfl) ?_
  refine vec_tolist (T.up F.keep) (V.up F.keep) (by omega) (by walk_at "room") hh ?_
  intro D c h2 tk2 e2 hDn hD
  replace F := F.gain e2 hDn hD
  walk_at "r"
  refine IfExp_ ?_
  walk_at "r"
  refine isi_vec (T.up F.keep).X (F.keep _ _ hy) (F.keep _ _ hdy) ?_
  walk_at "r"
  rw [if_pos rfl]
  walk_at "r"
  refine gm_tolist (T.up F.keep).X (F.keep _ _ hy) (F.keep _ _ hdy) ?_
  refine cw_fn0 T F.keep (by kernel_rfl) ?_
  refine vec_tolist (T.up F.keep) (W.up F.keep) (by omega) (by walk_at "room") hh ?_
  intro D2 c2 h3 tk3 e3 hDn2 hD2
  replace F := F.gain e3 hDn2 hD2
  walk_at "r"
  refine wpAny_mono (hc _ _ _ _ D D2 c c2 (by walk_at "units") hh F.keep F.head2 F.head) (fun v s' z => ?_) fun _ _ z => z
  obtain ⟨h'', tk'', rfl, hq⟩ := z
  walk_at "r"
  exact hq
set_option maxHeartbeats 4000000 in
/-- the same, refused: what the list's order throws leaves the frame -/
theorem cmp_refused {base : Heap} {outer : List Env} {id : String} {other : Value} {xs : List Value} (T : Tp (KK w) mg mb hp) (V : VecAt hp x xs) (hz : xs.length ≤ 1000) (hroom : A.depth < 380) (hh : A.handled = none)
    (hfr : A.frames = some outer) (hb : Ext base hp) (hff : hp.FunFrames base outer)
    (hin : ∀ (A : Around) (Q E : Value → Shared → Prop) (h' : Heap) tk, Ext hp h' → (∀ tk', Q (.bool false) ⟨h', gs, dr, tk', os⟩) → wpAny (model prog w) A (call (.builtin "isinstance") [other, .ref aC]) Q E ⟨h', gs, dr, tk, os⟩)
    (hc : ∀ (A' : Around) (Q' E' : Value → Shared → Prop) h' tk' D c, A'.units ≤ A.units + 10 → A'.handled = none → Ext hp h' → h'.get? D = some (LO xs c) → (∀ e h'' tk'', Heap.NewExc h' h'' e "TypeError" → E' (.ref e) ⟨h'', gs, dr, tk'', os⟩) → wpAny (model prog w) A' (call (.builtin id) [.ref D, other]) Q' E' ⟨h', gs, dr, tk', os⟩)
    (hn : ∀ e h' tk', Thrown base hp outer "TypeError" e h' → E (.ref e) ⟨h', gs, dr, tk', os⟩) :
    wpAny (model prog w) A (call (.ref g_compare_pvector) [.ref x, other, .builtin id]) Q E ⟨hp, gs, dr, tk, os⟩ := by
  obtain ⟨dx, root, tail, n, toff, t1, t2, t3, hx, hdx, _⟩ := V.len
  refine wpAny_call ?_
  refine call_fx [] (binds := [(Str.ofString "v", .ref x), (Str.ofString "other", other), (Str.ofString "operator", .builtin id)]) (by walk_at "room") (T.X _ _ (lk g_compare_pvector (by kernel_rfl))) (by with_unfolding_all rfl) T.nolimit (codeRec_of T.X (by kernel_rfl)) (BindsTo.of_eq (by with_unfolding_all rfl)) (locs (by with_unfolding_all rfl)) (fun _ q => nomatch q) List.nodup_nil ?_ (by decide +kernel)
  intro L h₁ tk F
  have F : Fx hp L h₁ _ [] := F
  walk_at "r"
  refine gm_tolist (T.up F.keep).X (F.keep _ _ hx) (F.keep _ _ hdx) ?_
  refine cw_fn0 T F.keep (by kernel_rfl) ?_
  refine vec_tolist (T.up F.keep) (V.up F.keep) (by omega) (by walk_at "room") hh ?_
  intro D c h2 tk2 e2 hDn hD
  replace F := F.gain e2 hDn hD
  walk_at "r"
  refine IfExp_ ?_
  walk_at "r"
  refine hin _ _ _ _ _ F.keep fun tk' => ?_
  walk_at "r"
  rw [if_neg (by decide)]
  walk_at "r"
  refine hc _ _ _ _ _ D c (by walk_at "units") hh F.keep hD fun e h3 tk3 ne => ?_
  exact leave_new F .rfl' hfr hb hff ne fun h'' th => hn e h'' _ th
end
section
variable {prog : Program} {w : World} {A : Around} {E : Value → Shared → Prop} {hp : Heap} {gs : Array GenState} {dr : Drawn} {tk : Nat} {os : OsState} {mg mb : Str → Option Value} {x y dx f : Addr} {sl : List (Option Value)} {Q : Value → Shared → Prop}
set_option maxHeartbeats 1000000 in
theorem lt_vec {xs ys : List Value} {ns ms : List Int} (T : Tp (KK w) mg mb hp) (V : VecAt hp x xs) (W : VecAt hp y ys) (hi : IntsAre xs ns) (hj : IntsAre ys ms) (hz : ns.length ≤ 1000) (hz2 : ms.length ≤ 1000) (hroom : A.depth < 370) (hu : A.units < 900) (hh : A.handled = none)
    (h : ∀ h' tk', Ext hp h' → Q (.bool (sayO .Lt (ordI ns ms))) ⟨h', gs, dr, tk', os⟩) : wpAny (model prog w) A (call (.ref m_dunder_lt) [.ref x, .ref y]) Q E ⟨hp, gs, dr, tk, os⟩ := by
  have hl1 := hi.length
  have hl2 := hj.length
  refine wpAny_call ?_
  refine call_fx [] (binds := [(Str.ofString "self", .ref x), (Str.ofString "other", .ref y)]) (by walk_at "room") (T.X _ _ (lk m_dunder_lt (by kernel_rfl))) (by with_unfolding_all rfl) T.nolimit (codeRec_of T.X (by kernel_rfl)) (BindsTo.of_eq (by with_unfolding_all rfl)) (locs (by with_unfolding_all rfl)) (fun _ q => nomatch q) List.nodup_nil ?_ (by decide +kernel)
  intro L h₁ tk F
  have F : Fx hp L h₁ _ [] := F
  walk_at "r"
  refine cw_fn T (by kernel_rfl) ?_
  walk_at "r"
  refine ⟨F.keep, ?_⟩
  refine cmp_vec (T.up F.keep) (V.up F.keep) (W.up F.keep) (by omega) (by omega) (by walk_at "room") hh fun A' E' h' tk' D D2 c c2 hu' hA e hD hD2 => ?_
  refine op_lt ?_
  refine Lc.ord_lists .lt hD hD2 hi hj (by simp only [Around.deeper, Around.in1, cLine] at *; omega) ?_
  refine ⟨_, _, rfl, ?_⟩
  walk_at "r"
  exact h _ _ (F.keep.trans e)
set_option maxHeartbeats 1000000 in
theorem lt_list {l : Addr} {nl : Nat} {xs ys : List Value} {ns ms : List Int} (T : Tp (KK w) mg mb hp) (V : VecAt hp x xs) (hl : hp.get? l = some (LO ys nl)) (hi : IntsAre xs ns) (hj : IntsAre ys ms) (hz : ns.length ≤ 1000) (hroom : A.depth < 370) (hu : A.units < 900) (hh : A.handled = none)
    (h : ∀ h' tk', Ext hp h' → Q (.bool (sayO .Lt (ordI ns ms))) ⟨h', gs, dr, tk', os⟩) : wpAny (model prog w) A (call (.ref m_dunder_lt) [.ref x, .ref l]) Q E ⟨hp, gs, dr, tk, os⟩ := by
  have hl1 := hi.length
  have hl2 := hj.length
  refine wpAny_call ?_
  refine call_fx [] (binds := [(Str.ofString "self", .ref x), (Str.ofString "other", .ref l)]) (by walk_at "room") (T.X _ _ (lk m_dunder_lt (by kernel_rfl))) (by with_unfolding_all rfl) T.nolimit (codeRec_of T.X (by kernel_rfl)) (BindsTo.of_eq (by with_unfolding_all rfl)) (locs (by with_unfolding_all rfl)) (fun _ q => nomatch q) List.nodup_nil ?_ (by decide +kernel)
  intro L h₁ tk F
  have F : Fx hp L h₁ _ [] := F
  walk_at "r"
  refine cw_fn T (by kernel_rfl) ?_
  walk_at "r"
  refine ⟨F.keep, ?_⟩
  refine cmp_plain (T.up F.keep) (V.up F.keep) (by omega) (by walk_at "room") hh (fun A Q E h' tk e q => isi_list (T.up (F.keep.trans e)).X (e _ _ (F.keep _ _ hl)) q) fun A' E' h' tk' D c hu' hA e hD => ?_
  refine op_lt ?_
  refine Lc.ord_lists .lt hD (e _ _ (F.keep _ _ hl)) hi hj (by simp only [Around.deeper, Around.in1, cLine] at *; omega) ?_
  refine ⟨_, _, rfl, ?_⟩
  walk_at "r"
  exact h _ _ (F.keep.trans e)
set_option maxHeartbeats 1000000 in
theorem le_vec {xs ys : List Value} {ns ms : List Int} (T : Tp (KK w) mg mb hp) (V : VecAt hp x xs) (W : VecAt hp y ys) (hi : IntsAre xs ns) (hj : IntsAre ys ms) (hz : ns.length ≤ 1000) (hz2 : ms.length ≤ 1000) (hroom : A.depth < 370) (hu : A.units < 900) (hh : A.handled = none)
    (h : ∀ h' tk', Ext hp h' → Q (.bool (sayO .LtE (ordI ns ms))) ⟨h', gs, dr, tk', os⟩) : wpAny (model prog w) A (call (.ref m_dunder_le) [.ref x, .ref y]) Q E ⟨hp, gs, dr, tk, os⟩ := by
  have hl1 := hi.length
  have hl2 := hj.length
  refine wpAny_call ?_
  refine call_fx [] (binds := [(Str.ofString "self", .ref x), (Str.ofString "other", .ref y)]) (by walk_at "room") (T.X _ _ (lk m_dunder_le (by kernel_rfl))) (by with_unfolding_all rfl) T.nolimit (codeRec_of T.X (by kernel_rfl)) (BindsTo.of_eq (by with_unfolding_all rfl)) (locs (by with_unfolding_all rfl)) (fun _ q => nomatch q) List.nodup_nil ?_ (by decide +kernel)
  intro L h₁ tk F
  have F : Fx hp L h₁ _ [] := F
  walk_at "r"
  refine cw_fn T (by kernel_rfl) ?_
  walk_at "r"
  refine ⟨F.keep, ?_⟩
  refine cmp_vec (T.up F.keep) (V.up F.keep) (W.up F.keep) (by omega) (by omega) (by walk_at "room") hh fun A' E' h' tk' D D2 c c2 hu' hA e hD hD2 => ?_
  refine op_le ?_
  refine Lc.ord_lists .le hD hD2 hi hj (by simp only [Around.deeper, Around.in1, cLine] at *; omega) ?_
  refine ⟨_, _, rfl, ?_⟩
  walk_at "r"
  exact h _ _ (F.keep.trans e)
set_option maxHeartbeats 1000000 in
theorem le_list {l : Addr} {nl : Nat} {xs ys : List Value} {ns ms : List Int} (T : Tp (KK w) mg mb hp) (V : VecAt hp x xs) (hl : hp.get? l = some (LO ys nl)) (hi : IntsAre xs ns) (hj : IntsAre ys ms) (hz : ns.length ≤ 1000) (hroom : A.depth < 370) (hu : A.units < 900) (hh : A.handled = none)
    (h : ∀ h' tk', Ext hp h' → Q (.bool (sayO .LtE (ordI ns ms))) ⟨h', gs, dr, tk', os⟩) : wpAny (model prog w) A (call (.ref m_dunder_le) [.ref x, .ref l]) Q E ⟨hp, gs, dr, tk, os⟩ := by
  have hl1 := hi.length
  have hl2 := hj.length
  refine wpAny_call ?_
  refine call_fx [] (binds := [(Str.ofString "self", .ref x), (Str.ofString "other", .ref l)]) (by walk_at "room") (T.X _ _ (lk m_dunder_le (by kernel_rfl))) (by with_unfolding_all rfl) T.nolimit (codeRec_of T.X (by kernel_rfl)) (BindsTo.of_eq (by with_unfolding_all rfl)) (locs (by with_unfolding_all rfl)) (fun _ q => nomatch q) List.nodup_nil ?_ (by decide +kernel)
  intro L h₁ tk F
  have F : Fx hp L h₁ _ [] := F
  walk_at "r"
  refine cw_fn T (by kernel_rfl) ?_
  walk_at "r"
  refine ⟨F.keep, ?_⟩
  refine cmp_plain (T.up F.keep) (V.up F.keep) (by omega) (by walk_at "room") hh (fun A Q E h' tk e q => isi_list (T.up (F.keep.trans e)).X (e _ _ (F.keep _ _ hl)) q) fun A' E' h' tk' D c hu' hA e hD => ?_
  refine op_le ?_
  refine Lc.ord_lists .le hD (e _ _ (F.keep _ _ hl)) hi hj (by simp only [Around.deeper, Around.in1, cLine] at *; omega) ?_
  refine ⟨_, _, rfl, ?_⟩
  walk_at "r"
  exact h _ _ (F.keep.trans e)
set_option maxHeartbeats 1000000 in
theorem gt_vec {xs ys : List Value} {ns ms : List Int} (T : Tp (KK w) mg mb hp) (V : VecAt hp x xs) (W : VecAt hp y ys) (hi : IntsAre xs ns) (hj : IntsAre ys ms) (hz : ns.length ≤ 1000) (hz2 : ms.length ≤ 1000) (hroom : A.depth < 370) (hu : A.units < 900) (hh : A.handled = none)
    (h : ∀ h' tk', Ext hp h' → Q (.bool (sayO .Gt (ordI ns ms))) ⟨h', gs, dr, tk', os⟩) : wpAny (model prog w) A (call (.ref m_dunder_gt) [.ref x, .ref y]) Q E ⟨hp, gs, dr, tk, os⟩ := by
  have hl1 := hi.length
  have hl2 := hj.length
  refine wpAny_call ?_
  refine call_fx [] (binds := [(Str.ofString "self", .ref x), (Str.ofString "other", .ref y)]) (by walk_at "room") (T.X _ _ (lk m_dunder_gt (by kernel_rfl))) (by with_unfolding_all rfl) T.nolimit (codeRec_of T.X (by kernel_rfl)) (BindsTo.of_eq (by with_unfolding_all rfl)) (locs (by with_unfolding_all rfl)) (fun _ q => nomatch q) List.nodup_nil ?_ (by decide +kernel)
  intro L h₁ tk F
  have F : Fx hp L h₁ _ [] := F
  walk_at "r"
  refine cw_fn T (by kernel_rfl) ?_
  walk_at "r"
  refine ⟨F.keep, ?_⟩
  refine cmp_vec (T.up F.keep) (V.up F.keep) (W.up F.keep) (by omega) (by omega) (by walk_at "room") hh fun A' E' h' tk' D D2 c c2 hu' hA e hD hD2 => ?_
  refine op_gt ?_
  refine Lc.ord_lists .gt hD hD2 hi hj (by simp only [Around.deeper, Around.in1, cLine] at *; omega) ?_
  refine ⟨_, _, rfl, ?_⟩
  walk_at "r"
  exact h _ _ (F.keep.trans e)
set_option maxHeartbeats 1000000 in
theorem gt_list {l : Addr} {nl : Nat} {xs ys : List Value} {ns ms : List Int} (T : Tp (KK w) mg mb hp) (V : VecAt hp x xs) (hl : hp.get? l = some (LO ys nl)) (hi : IntsAre xs ns) (hj : IntsAre ys ms) (hz : ns.length ≤ 1000) (hroom : A.depth < 370) (hu : A.units < 900) (hh : A.handled = none)
    (h : ∀ h' tk', Ext hp h' → Q (.bool (sayO .Gt (ordI ns ms))) ⟨h', gs, dr, tk', os⟩) : wpAny (model prog w) A (call (.ref m_dunder_gt) [.ref x, .ref l]) Q E ⟨hp, gs, dr, tk, os⟩ := by
  have hl1 := hi.length
  have hl2 := hj.length
  refine wpAny_call ?_
  refine call_fx [] (binds := [(Str.ofString "self", .ref x), (Str.ofString "other", .ref l)]) (by walk_at "room") (T.X _ _ (lk m_dunder_gt (by kernel_rfl))) (by with_unfolding_all rfl) T.nolimit (codeRec_of T.X (by kernel_rfl)) (BindsTo.of_eq (by with_unfolding_all rfl)) (locs (by with_unfolding_all rfl)) (fun _ q => nomatch q) List.nodup_nil ?_ (by decide +kernel)
  intro L h₁ tk F
  have F : Fx hp L h₁ _ [] := F
  walk_at "r"
  refine cw_fn T (by kernel_rfl) ?_
  walk_at "r"
  refine ⟨F.keep, ?_⟩
  refine cmp_plain (T.up F.keep) (V.up F.keep) (by omega) (by walk_at "room") hh (fun A Q E h' tk e q => isi_list (T.up (F.keep.trans e)).X (e _ _ (F.keep _ _ hl)) q) fun A' E' h' tk' D c hu' hA e hD => ?_
  refine op_gt ?_
  refine Lc.ord_lists .gt hD (e _ _ (F.keep _ _ hl)) hi hj (by simp only [Around.deeper, Around.in1, cLine] at *; omega) ?_
  refine ⟨_, _, rfl, ?_⟩
  walk_at "r"
  exact h _ _ (F.keep.trans e)
set_option maxHeartbeats 1000000 in
theorem ge_vec {xs ys : List Value} {ns ms : List Int} (T : Tp (KK w) mg mb hp) (V : VecAt hp x xs) (W : VecAt hp y ys) (hi : IntsAre xs ns) (hj : IntsAre ys ms) (hz : ns.length ≤ 1000) (hz2 : ms.length ≤ 1000) (hroom : A.depth < 370) (hu : A.units < 900) (hh : A.handled = none)
    (h : ∀ h' tk', Ext hp h' → Q (.bool (sayO .GtE (ordI ns ms))) ⟨h', gs, dr, tk', os⟩) : wpAny (model prog w) A (call (.ref m_dunder_ge) [.ref x, .ref y]) Q E ⟨hp, gs, dr, tk, os⟩ := by
  have hl1 := hi.length
  have hl2 := hj.length
  refine wpAny_call ?_
  refine call_fx [] (binds := [(Str.ofString "self", .ref x), (Str.ofString "other", .ref y)]) (by walk_at "room") (T.X _ _ (lk m_dunder_ge (by kernel_rfl))) (by with_unfolding_all rfl) T.nolimit (codeRec_of T.X (by kernel_rfl)) (BindsTo.of_eq (by with_unfolding_all rfl)) (locs (by with_unfolding_all rfl)) (fun _ q => nomatch q) List.nodup_nil ?_ (by decide +kernel)
  intro L h₁ tk F
  have F : Fx hp L h₁ _ [] := F
  walk_at "r"
  refine cw_fn T (by kernel_rfl) ?_
  walk_at "r"
  refine ⟨F.keep, ?_⟩
  refine cmp_vec (T.up F.keep) (V.up F.keep) (W.up F.keep) (by omega) (by omega) (by walk_at "room") hh fun A' E' h' tk' D D2 c c2 hu' hA e hD hD2 => ?_
  refine op_ge ?_
  refine Lc.ord_lists .ge hD hD2 hi hj (by simp only [Around.deeper, Around.in1, cLine] at *; omega) ?_
  refine ⟨_, _, rfl, ?_⟩
  walk_at "r"
  exact h _ _ (F.keep.trans e)
set_option maxHeartbeats 1000000 in
theorem ge_list {l : Addr} {nl : Nat} {xs ys : List Value} {ns ms : List Int} (T : Tp (KK w) mg mb hp) (V : VecAt hp x xs) (hl : hp.get? l = some (LO ys nl)) (hi : IntsAre xs ns) (hj : IntsAre ys ms) (hz : ns.length ≤ 1000) (hroom : A.depth < 370) (hu : A.units < 900) (hh : A.handled = none)
    (h : ∀ h' tk', Ext hp h' → Q (.bool (sayO .GtE (ordI ns ms))) ⟨h', gs, dr, tk', os⟩) : wpAny (model prog w) A (call (.ref m_dunder_ge) [.ref x, .ref l]) Q E ⟨hp, gs, dr, tk, os⟩ := by
  have hl1 := hi.length
  have hl2 := hj.length
  refine wpAny_call ?_
  refine call_fx [] (binds := [(Str.ofString "self", .ref x), (Str.ofString "other", .ref l)]) (by walk_at "room") (T.X _ _ (lk m_dunder_ge (by kernel_rfl))) (by with_unfolding_all rfl) T.nolimit (codeRec_of T.X (by kernel_rfl)) (BindsTo.of_eq (by with_unfolding_all rfl)) (locs (by with_unfolding_all rfl)) (fun _ q => nomatch q) List.nodup_nil ?_ (by decide +kernel)
  intro L h₁ tk F
  have F : Fx hp L h₁ _ [] := F
  walk_at "r"
  refine cw_fn T (by kernel_rfl) ?_
  walk_at "r"
  refine ⟨F.keep, ?_⟩
  refine cmp_plain (T.up F.keep) (V.up F.keep) (by omega) (by walk_at "room") hh (fun A Q E h' tk e q => isi_list (T.up (F.keep.trans e)).X (e _ _ (F.keep _ _ hl)) q) fun A' E' h' tk' D c hu' hA e hD => ?_
  refine op_ge ?_
  refine Lc.ord_lists .ge hD (e _ _ (F.keep _ _ hl)) hi hj (by simp only [Around.deeper, Around.in1, cLine] at *; omega) ?_
  refine ⟨_, _, rfl, ?_⟩
  walk_at "r"
  exact h _ _ (F.keep.trans e)
end
namespace Hs
theorem ty_list : typeOf (.builtin "list.__len__") = pure (.type "wrapper_descriptor") := by show builtinType _ = _; rw [builtinType_eq_fast]; kernel_rfl
theorem slot_list_ga : Slot "list" "__getattribute__" "list.__getattribute__" :=
  .of (owner := "list") (n := "__getattribute__") (by rw [typeLookup_type, builtinLookup_eq_fast]; kernel_rfl) (by decide +kernel) (by decide +kernel) (by decide +kernel)
    (by first | exact .inl (by decide +kernel) | exact .inr (by decide +kernel)) (by rw [isSubtype_type]; kernel_rfl)
theorem args_list_ga (a b : Value) : argsOk "list.__getattribute__" ⟨[a, b], []⟩ := by unfold argsOk; kernel_rfl
theorem entry_list_ga : entryFor table "list.__getattribute__" = some Builtin.«object.__getattribute__» :=
  entryFor_alias (id' := "object.__getattribute__") (by kernel_rfl) (by first | rfl | decide +kernel) (by decide +kernel) (by kernel_rfl)
theorem sub_list2 : isSubtype (.type "list") (.type (".".intercalate ("list.__len__".cutAt '.').dropLast)) = pure true := by
  rw [show (".".intercalate ("list.__len__".cutAt '.').dropLast) = "list" by decide +kernel, isSubtype_type]; kernel_rfl
theorem sub_list_module : isSubtype (.type "list") (.type "module") = pure false := by rw [isSubtype_type]; kernel_rfl
theorem ty_tuple : typeOf (.builtin "tuple.__len__") = pure (.type "wrapper_descriptor") := by show builtinType _ = _; rw [builtinType_eq_fast]; kernel_rfl
theorem slot_tuple_ga : Slot "tuple" "__getattribute__" "tuple.__getattribute__" :=
  .of (owner := "tuple") (n := "__getattribute__") (by rw [typeLookup_type, builtinLookup_eq_fast]; kernel_rfl) (by decide +kernel) (by decide +kernel) (by decide +kernel)
    (by first | exact .inl (by decide +kernel) | exact .inr (by decide +kernel)) (by rw [isSubtype_type]; kernel_rfl)
theorem args_tuple_ga (a b : Value) : argsOk "tuple.__getattribute__" ⟨[a, b], []⟩ := by unfold argsOk; kernel_rfl
theorem entry_tuple_ga : entryFor table "tuple.__getattribute__" = some Builtin.«object.__getattribute__» :=
  entryFor_alias (id' := "object.__getattribute__") (by kernel_rfl) (by first | rfl | decide +kernel) (by decide +kernel) (by kernel_rfl)
theorem sub_tuple2 : isSubtype (.type "tuple") (.type (".".intercalate ("tuple.__len__".cutAt '.').dropLast)) = pure true := by
  rw [show (".".intercalate ("tuple.__len__".cutAt '.').dropLast) = "tuple" by decide +kernel, isSubtype_type]; kernel_rfl
theorem sub_tuple_module : isSubtype (.type "tuple") (.type "module") = pure false := by rw [isSubtype_type]; kernel_rfl
theorem ty_str : typeOf (.builtin "str.__len__") = pure (.type "wrapper_descriptor") := by show builtinType _ = _; rw [builtinType_eq_fast]; kernel_rfl
theorem sub_str2 : isSubtype (.type "str") (.type (".".intercalate ("str.__len__".cutAt '.').dropLast)) = pure true := by
  rw [show (".".intercalate ("str.__len__".cutAt '.').dropLast) = "str" by decide +kernel, isSubtype_type]; kernel_rfl
theorem sub_str_module : isSubtype (.type "str") (.type "module") = pure false := by rw [isSubtype_type]; kernel_rfl
theorem lk_get : typeLookup (.type "wrapper_descriptor") "__get__" = pure (some (.builtin "wrapper_descriptor.__get__")) := by rw [typeLookup_type, builtinLookup_eq_fast]; kernel_rfl
theorem lk_set : typeLookup (.type "wrapper_descriptor") "__set__" = pure none := by rw [typeLookup_type, builtinLookup_eq_fast]; kernel_rfl
theorem lk_del : typeLookup (.type "wrapper_descriptor") "__delete__" = pure none := by rw [typeLookup_type, builtinLookup_eq_fast]; kernel_rfl
theorem slot_get : Slot "wrapper_descriptor" "__get__" "wrapper_descriptor.__get__" :=
  .of (owner := "wrapper_descriptor") (n := "__get__") (by rw [typeLookup_type, builtinLookup_eq_fast]; kernel_rfl) (by decide +kernel) (by decide +kernel) (by decide +kernel)
    (by first | exact .inl (by decide +kernel) | exact .inr (by decide +kernel)) (by rw [isSubtype_type]; kernel_rfl)
theorem args_get (a b c : Value) : argsOk "wrapper_descriptor.__get__" ⟨[a, b, c], []⟩ := by unfold argsOk; kernel_rfl
theorem entry_get : entryFor table "wrapper_descriptor.__get__" = some Builtin.«wrapper_descriptor.__get__» := entryFor_of_tree (by kernel_rfl)
end Hs
section
variable {prog : Program} {w : World} {A : Around} {E : Value → Shared → Prop} {hp : Heap} {gs : Array GenState} {dr : Drawn} {tk : Nat} {os : OsState} {Q : Value → Shared → Prop}
set_option maxHeartbeats 2000000 in
theorem has_list {l : Addr} {its : List Value} {n : Nat} {u : Tok} (hl : hp.get? l = some (LO its n)) (h : ∀ h' tk', Ext hp h' → Q (.bool true) ⟨h', gs, dr, tk', os⟩) : wpAny (model prog w) A (call (.builtin "hasattr") [.ref l, .str (Str.ofString "__len__") u]) Q E ⟨hp, gs, dr, tk, os⟩ := by
  refine Calls.call_function_entry (by decide +kernel) (by decide +kernel) (entryFor_of_tree (b := Builtin.«hasattr») (by kernel_rfl)) (by unfold argsOk; kernel_rfl) ?_
  unfold Builtin.«hasattr»
  have hT : (⟨hp, gs, dr, tk, os⟩ : Shared).TypeIs (.ref l) "list" := ⟨_, hl, rfl⟩
  have hT5 : (⟨hp, gs, dr, tk, os⟩ : Shared).TypeIs (.builtin "list.__len__") "wrapper_descriptor" := Hs.ty_list
  have f1 := PySem.F.slot_list_len.lookup
  have f2 := Hs.slot_list_ga.lookup
  have f3 := Hs.slot_list_ga.bind (.ref l)
  have f5 := Hs.ty_list
  have f6 := Hs.lk_get
  have f7 := Hs.lk_set
  have f8 := Hs.lk_del
  have f9 := Hs.slot_get.bind (.builtin "list.__len__")
  have f10 := Hs.sub_list2
  have f11 := Hs.sub_list_module
  wp_walk
  refine codeAny_call_builtin Hs.slot_list_ga.plain Hs.entry_list_ga (Hs.slot_list_ga.check _ _ _ _ _ _ _ _ hT (Hs.args_list_ga _ _) ?_)
  repeat (any_goals (first | assumption | wp_step))
  refine codeAny_call_builtin Hs.slot_get.plain Hs.entry_get (Hs.slot_get.check _ _ _ _ _ _ _ _ hT5 (Hs.args_get _ _ _) ?_)
  repeat (any_goals (first | assumption | wp_step))
  exact ⟨_, rfl, h _ _ (.of_push _)⟩
set_option maxHeartbeats 2000000 in
theorem has_tuple {l : Addr} {its : List Value} {n : Nat} {u : Tok} (hl : hp.get? l = some { cls := .type "tuple", data := .seq its.toArray n }) (h : ∀ h' tk', Ext hp h' → Q (.bool true) ⟨h', gs, dr, tk', os⟩) : wpAny (model prog w) A (call (.builtin "hasattr") [.ref l, .str (Str.ofString "__len__") u]) Q E ⟨hp, gs, dr, tk, os⟩ := by
  refine Calls.call_function_entry (by decide +kernel) (by decide +kernel) (entryFor_of_tree (b := Builtin.«hasattr») (by kernel_rfl)) (by unfold argsOk; kernel_rfl) ?_
  unfold Builtin.«hasattr»
  have hT : (⟨hp, gs, dr, tk, os⟩ : Shared).TypeIs (.ref l) "tuple" := ⟨_, hl, rfl⟩
  have hT5 : (⟨hp, gs, dr, tk, os⟩ : Shared).TypeIs (.builtin "tuple.__len__") "wrapper_descriptor" := Hs.ty_tuple
  have f1 := PySem.F.slot_tuple_len.lookup
  have f2 := Hs.slot_tuple_ga.lookup
  have f3 := Hs.slot_tuple_ga.bind (.ref l)
  have f5 := Hs.ty_tuple
  have f6 := Hs.lk_get
  have f7 := Hs.lk_set
  have f8 := Hs.lk_del
  have f9 := Hs.slot_get.bind (.builtin "tuple.__len__")
  have f10 := Hs.sub_tuple2
  have f11 := Hs.sub_tuple_module
  wp_walk
  refine codeAny_call_builtin Hs.slot_tuple_ga.plain Hs.entry_tuple_ga (Hs.slot_tuple_ga.check _ _ _ _ _ _ _ _ hT (Hs.args_tuple_ga _ _) ?_)
  repeat (any_goals (first | assumption | wp_step))
  refine codeAny_call_builtin Hs.slot_get.plain Hs.entry_get (Hs.slot_get.check _ _ _ _ _ _ _ _ hT5 (Hs.args_get _ _ _) ?_)
  repeat (any_goals (first | assumption | wp_step))
  exact ⟨_, rfl, h _ _ (.of_push _)⟩
set_option maxHeartbeats 2000000 in
theorem has_str {k : Str} {t : Tok} {u : Tok} (h : ∀ h' tk', Ext hp h' → Q (.bool true) ⟨h', gs, dr, tk', os⟩) : wpAny (model prog w) A (call (.builtin "hasattr") [.str k t, .str (Str.ofString "__len__") u]) Q E ⟨hp, gs, dr, tk, os⟩ := by
  refine Calls.call_function_entry (by decide +kernel) (by decide +kernel) (entryFor_of_tree (b := Builtin.«hasattr») (by kernel_rfl)) (by unfold argsOk; kernel_rfl) ?_
  unfold Builtin.«hasattr»
  have hT : (⟨hp, gs, dr, tk, os⟩ : Shared).TypeIs (.str k t) "str" := typeIs_str _ k t
  have hT5 : (⟨hp, gs, dr, tk, os⟩ : Shared).TypeIs (.builtin "str.__len__") "wrapper_descriptor" := Hs.ty_str
  have f1 := PySem.F.slot_str_len.lookup
  have f2 := PySem.F.slot_str_getattribute.lookup
  have f3 := PySem.F.slot_str_getattribute.bind (.str k t)
  have f5 := Hs.ty_str
  have f6 := Hs.lk_get
  have f7 := Hs.lk_set
  have f8 := Hs.lk_del
  have f9 := Hs.slot_get.bind (.builtin "str.__len__")
  have f10 := Hs.sub_str2
  have f11 := Hs.sub_str_module
  wp_walk
  refine codeAny_call_builtin PySem.F.slot_str_getattribute.plain PySem.F.entry_object_getattribute (PySem.F.slot_str_getattribute.check _ _ _ _ _ _ _ _ hT (PySem.F.args_object_getattribute_2 _ _) ?_)
  repeat (any_goals (first | assumption | wp_step))
  refine codeAny_call_builtin Hs.slot_get.plain Hs.entry_get (Hs.slot_get.check _ _ _ _ _ _ _ _ hT5 (Hs.args_get _ _ _) ?_)
  repeat (any_goals (first | assumption | wp_step))
  exact ⟨_, rfl, h _ _ (.of_push _)⟩
end
namespace Hs
theorem miss_int : typeLookup (.type "int") "__len__" = pure none := am_miss_of_fast (by kernel_rfl)
theorem miss_NoneType : typeLookup (.type "NoneType") "__len__" = pure none := am_miss_of_fast (by kernel_rfl)
theorem sub_int_module : isSubtype (.type "int") (.type "module") = pure false := by rw [isSubtype_type]; kernel_rfl
theorem sub_NoneType_module : isSubtype (.type "NoneType") (.type "module") = pure false := by rw [isSubtype_type]; kernel_rfl
end Hs
section
variable {prog : Program} {w : World} {A : Around} {E : Value → Shared → Prop} {hp : Heap} {gs : Array GenState} {dr : Drawn} {tk : Nat} {os : OsState} {Q : Value → Shared → Prop}
set_option maxHeartbeats 2000000 in
theorem has_int {n : Int} {t : Tok} {u : Tok} (hh : A.handled = none) (h : ∀ h' tk', Ext hp h' → Q (.bool false) ⟨h', gs, dr, tk', os⟩) : wpAny (model prog w) A (call (.builtin "hasattr") [.int n t, .str (Str.ofString "__len__") u]) Q E ⟨hp, gs, dr, tk, os⟩ := by
  refine Calls.call_function_entry (by decide +kernel) (by decide +kernel) (entryFor_of_tree (b := Builtin.«hasattr») (by kernel_rfl)) (by unfold argsOk; kernel_rfl) ?_
  unfold Builtin.«hasattr»
  have hT : ∀ s' : Shared, s'.TypeIs (.int n t) "int" := fun _ => rfl
  have f0 := Hs.miss_int
  have f1 := sub_AttributeError
  have f3 := PySem.F.slot_int_getattribute.lookup
  have f4 := PySem.F.slot_int_getattribute.bind (.int n t)
  have f5 := am_int_getattr_none
  have f6 := Hs.sub_int_module
  repeat (any_goals (first | assumption | ((with_reducible show wpAny _ _ (call (Value.builtin "int.__getattribute__") _) _ _ _); refine call_meets PySem.F.slot_int_getattribute (hT _) am_entry_int_getattribute (PySem.F.args_int_getattribute_2 _ _) (meets_getattribute_miss_int n t _ _ Hs.miss_int) ⟨hh, fun h' tk' e hx => ?_⟩) | wp_step))
  obtain ⟨t', u', he⟩ := hx.there
  show wpAny _ _ (getattributeRaised _ _ _ _ _ _ _) _ _ _
  unfold getattributeRaised
  repeat (any_goals (first | assumption | wp_step))
  exact ⟨_, rfl, h _ _ hx.keeps⟩
set_option maxHeartbeats 2000000 in
theorem has_none {u : Tok} (hh : A.handled = none) (h : ∀ h' tk', Ext hp h' → Q (.bool false) ⟨h', gs, dr, tk', os⟩) : wpAny (model prog w) A (call (.builtin "hasattr") [.none, .str (Str.ofString "__len__") u]) Q E ⟨hp, gs, dr, tk, os⟩ := by
  refine Calls.call_function_entry (by decide +kernel) (by decide +kernel) (entryFor_of_tree (b := Builtin.«hasattr») (by kernel_rfl)) (by unfold argsOk; kernel_rfl) ?_
  unfold Builtin.«hasattr»
  have hT : ∀ s' : Shared, s'.TypeIs (.none) "NoneType" := fun _ => rfl
  have f0 := Hs.miss_NoneType
  have f1 := sub_AttributeError
  have f3 := PySem.F.slot_NoneType_getattribute.lookup
  have f4 := PySem.F.slot_NoneType_getattribute.bind (.none)
  have f5 := am_none_getattr_none
  have f6 := Hs.sub_NoneType_module
  repeat (any_goals (first | assumption | ((with_reducible show wpAny _ _ (call (Value.builtin "object.__getattribute__") _) _ _ _); refine call_meets PySem.F.slot_NoneType_getattribute (hT _) PySem.F.entry_object_getattribute (PySem.F.args_object_getattribute_2 _ _) (meets_getattribute_miss_none _ _ Hs.miss_NoneType) ⟨hh, fun h' tk' e hx => ?_⟩) | wp_step))
  obtain ⟨t', u', he⟩ := hx.there
  show wpAny _ _ (getattributeRaised _ _ _ _ _ _ _) _ _ _
  unfold getattributeRaised
  repeat (any_goals (first | assumption | wp_step))
  exact ⟨_, rfl, h _ _ hx.keeps⟩
end
theorem fi_ga : findIn (KK w) (.ref aC) "__getattribute__" = some (some (.builtin "object.__getattribute__")) := by kernel_rfl
theorem fi_gh : findIn (KK w) (.ref aC) "__getattr__" = some none := by kernel_rfl
theorem sb_module : subIn (KK w) (.ref aC) (.type "module") = some false := by kernel_rfl
section
variable {prog : Program} {w : World} {A : Around} {E : Value → Shared → Prop} {hp : Heap} {gs : Array GenState} {dr : Drawn} {tk : Nat} {os : OsState} {x dx : Addr} {sl : List (Option Value)} {Q : Value → Shared → Prop}
set_option maxHeartbeats 2000000 in
theorem has_vec {u : Tok} (X : (KK w).In hp) (hx : hp.get? x = some (IO dx sl)) (hdx : hp.get? dx = some emptyDict) (h : ∀ h' tk', Ext hp h' → Q (.bool true) ⟨h', gs, dr, tk', os⟩) : wpAny (model prog w) A (call (.builtin "hasattr") [.ref x, .str (Str.ofString "__len__") u]) Q E ⟨hp, gs, dr, tk, os⟩ := by
  refine Calls.call_function_entry (by decide +kernel) (by decide +kernel) (entryFor_of_tree (b := Builtin.«hasattr») (by kernel_rfl)) (by unfold argsOk; kernel_rfl) ?_
  unfold Builtin.«hasattr»
  have I := inst_of hx hdx
  have L0 := I.type (M := model prog w)
  have L1 := looks_findIn (M := model prog w) X fi_ga
  have L2 := looks_subIn (M := model prog w) X sb_module
  have hT : wpAny (model prog w) A.in1 (typeOf (.ref x)) (fun v s' => v = .ref aC ∧ s' = ⟨hp, gs, dr, tk, os⟩) E ⟨hp, gs, dr, tk, os⟩ := L0.here (s := ⟨hp, gs, dr, tk, os⟩) ⟨rfl, rfl⟩
  wp_walk
  refine L2.here (s := ⟨hp, gs, dr, tk, os⟩) ?_
  wp_walk
  refine L1.here (s := ⟨hp, gs, dr, tk, os⟩) ?_
  dsimp only
  rw [if_pos (by rfl)]
  have hf : findObj (KK w) aC (some emptyDict) (Str.ofString "__len__") = some (.bind (.builtin "function.__get__") (.ref m_dunder_len)) := by kernel_rfl
  show wpAny _ _ (getAttrEveryday _ _ _) _ _ _
  refine wpAny_bind (wpAny_onRaise (wpAny_runValue (codeAny_builtin PySem.F.plainObj_entry_getattr_hooked (wpAny_mono (kin_hooked (E := fun _ _ => False) (s := ⟨hp, gs, dr, tk, os⟩) (P := fun v s' => v = .ref hp.objs.size ∧ s' = ⟨hp.push (methodObj (.ref m_dunder_len) (.ref x)), gs, dr, tk, os⟩) X I hf fi_gh (wpAny_call (fn_get (s := ⟨hp, gs, dr, tk, os⟩) X (by kernel_rfl) ⟨rfl, rfl⟩))) (fun fin s' z => ?_) ?_))))
  · rcases fin with (_ | _ | _ | _) | _ <;> first | exact z.elim | skip
    obtain ⟨rfl, rfl⟩ := z
    wp_walk
    exact ⟨_, rfl, h _ _ (.of_push _)⟩
  · exact fun _ _ z => z.elim
end
local macro_rules | `(tactic| walk_at "bo") => `(tactic| first
  | with_reducible refine BoolOp_or ?_
  | with_reducible refine BoolOp_and ?_
  | with_reducible refine BoolOp_one ?_
  | with_reducible refine x_str ?_
  | walk_at "e")
local macro_rules | `(tactic| walk_at "rb") => `(tactic| repeat walk_at "bo")
section
variable {prog : Program} {w : World} {A : Around} {E : Value → Shared → Prop} {hp : Heap} {gs : Array GenState} {dr : Drawn} {tk : Nat} {os : OsState} {mg mb : Str → Option Value} {x y dx f : Addr} {sl : List (Option Value)} {Q : Value → Shared → Prop}
set_option maxHeartbeats 2000000 in
theorem eq_vec {xs ys : List Value} {ns ms : List Int} (T : Tp (KK w) mg mb hp) (V : VecAt hp x xs) (W : VecAt hp y ys) (hi : IntsAre xs ns) (hj : IntsAre ys ms) (hz : ns.length ≤ 1000) (hz2 : ms.length ≤ 1000) (hroom : A.depth < 370) (hu : A.units < 900) (hh : A.handled = none) (hxy : x = y → ns = ms)
    (h : ∀ h' tk', Ext hp h' → Q (.bool (decide (ns = ms))) ⟨h', gs, dr, tk', os⟩) : wpAny (model prog w) A (call (.ref m_dunder_eq) [.ref x, .ref y]) Q E ⟨hp, gs, dr, tk, os⟩ := by
  have hl1 := hi.length
  have hl2 := hj.length
  obtain ⟨dx, root, tail, n, toff, t1, t2, t3, hx, hdx, hlen⟩ := V.len
  obtain ⟨dy, _, _, n2, _, _, _, _, hy, hdy, hlen2⟩ := W.len
  refine wpAny_call ?_
  refine call_fx [] (binds := [(Str.ofString "self", .ref x), (Str.ofString "other", .ref y)]) (by walk_at "room") (T.X _ _ (lk m_dunder_eq (by kernel_rfl))) (by with_unfolding_all rfl) T.nolimit (codeRec_of T.X (by kernel_rfl)) (BindsTo.of_eq (by with_unfolding_all rfl)) (locs (by with_unfolding_all rfl)) (fun _ q => nomatch q) List.nodup_nil ?_ (by decide +kernel)
  intro L h₁ tk F
  have F : Fx hp L h₁ _ [] := F
  walk_at "rb"
  by_cases hq : x = y
  · subst hq
    refine wpAny_is_ref_self ?_
    walk_at "rb"
    rw [if_pos rfl]
    walk_at "rb"
    have hd := decide_eq_true (hxy rfl)
    rw [hd] at h
    exact h _ _ F.keep
  · refine wpAny_is_ref_other hq (F.keep _ _ hx) (F.keep _ _ hy) (fun q => by cases q) ?_
    walk_at "rb"
    rw [if_neg (by decide)]
    walk_at "rb"
    refine has_vec (T.up F.keep).X (F.keep _ _ hy) (F.keep _ _ hdy) ?_
    intro h2 tk2 e2
    replace F := F.ext e2
    walk_at "rb"
    rw [if_pos rfl]
    walk_at "rb"
    refine len_vec (T.up F.keep) (W.up F.keep) (by omega) (by walk_at "room") ?_
    intro h3 tk3 t3 e3
    replace F := F.ext e3
    walk_at "rb"
    by_cases hll : ns.length = ms.length
    · have hb : (n == (ys.length : Int)) = true := by simp; omega
      rw [hb]
      walk_at "rb"
      rw [if_pos rfl]
      walk_at "rb"
      refine cw_fn T (by kernel_rfl) ?_
      walk_at "rb"
      refine ⟨F.keep, ?_⟩
      refine cmp_vec (T.up F.keep) (V.up F.keep) (W.up F.keep) (by omega) (by omega) (by walk_at "room") hh fun A' E' h' tk' D D2 c c2 hu' hA e hD hD2 => ?_
      refine op_eq ?_
      show wpAny _ _ (compareOp .Eq _ _) _ _ _
      refine ke_eq_ints (isList_of hD) (isList_of hD2) hi hj (by simp only [Around.deeper, Around.in1, cLine] at *; omega) ?_
      refine ⟨_, _, rfl, ?_⟩
      walk_at "rb"
      exact h _ _ (F.keep.trans e)
    · have hb : (n == (ys.length : Int)) = false := by simp; omega
      rw [hb]
      walk_at "rb"
      rw [if_neg (by decide)]
      walk_at "rb"
      have hd : decide (ns = ms) = false := decide_eq_false fun q => hll (by rw [q])
      rw [hd] at h
      exact h _ _ F.keep
set_option maxHeartbeats 2000000 in
theorem eq_list {l : Addr} {nl : Nat} {xs ys : List Value} {ns ms : List Int} (T : Tp (KK w) mg mb hp) (V : VecAt hp x xs) (hl : hp.get? l = some (LO ys nl)) (hi : IntsAre xs ns) (hj : IntsAre ys ms) (hz : ns.length ≤ 1000) (hz2 : ms.length ≤ 1000) (hroom : A.depth < 370) (hu : A.units < 900) (hh : A.handled = none)
    (h : ∀ h' tk', Ext hp h' → Q (.bool (decide (ns = ms))) ⟨h', gs, dr, tk', os⟩) : wpAny (model prog w) A (call (.ref m_dunder_eq) [.ref x, .ref l]) Q E ⟨hp, gs, dr, tk, os⟩ := by
  have hl1 := hi.length
  have hl2 := hj.length
  obtain ⟨dx, root, tail, n, toff, t1, t2, t3, hx, hdx, hlen⟩ := V.len
  refine wpAny_call ?_
  refine call_fx [] (binds := [(Str.ofString "self", .ref x), (Str.ofString "other", .ref l)]) (by walk_at "room") (T.X _ _ (lk m_dunder_eq (by kernel_rfl))) (by with_unfolding_all rfl) T.nolimit (codeRec_of T.X (by kernel_rfl)) (BindsTo.of_eq (by with_unfolding_all rfl)) (locs (by with_unfolding_all rfl)) (fun _ q => nomatch q) List.nodup_nil ?_ (by decide +kernel)
  intro L h₁ tk F
  have F : Fx hp L h₁ _ [] := F
  walk_at "rb"
  have hq : x ≠ l := fun q => by
    rw [q, hl] at hx
    have := Option.some.inj hx
    injection this with hc _ _ _
    cases hc
  · refine wpAny_is_ref_other hq (F.keep _ _ hx) (F.keep _ _ hl) (fun q => by cases q) ?_
    walk_at "rb"
    rw [if_neg (by decide)]
    walk_at "rb"
    refine has_list (F.keep _ _ hl) ?_
    intro h2 tk2 e2
    replace F := F.ext e2
    walk_at "rb"
    rw [if_pos rfl]
    walk_at "rb"
    refine lc_len (F.keep _ _ hl) (by omega) ?_
    intro t3 tk3
    walk_at "rb"
    by_cases hll : ns.length = ms.length
    · have hb : (n == (ys.length : Int)) = true := by simp; omega
      rw [hb]
      walk_at "rb"
      rw [if_pos rfl]
      walk_at "rb"
      refine cw_fn T (by kernel_rfl) ?_
      walk_at "rb"
      refine ⟨F.keep, ?_⟩
      refine cmp_plain (T.up F.keep) (V.up F.keep) (by omega) (by walk_at "room") hh (fun A Q E h' tk e q => isi_list (T.up (F.keep.trans e)).X (e _ _ (F.keep _ _ hl)) q) fun A' E' h' tk' D c hu' hA e hD => ?_
      refine op_eq ?_
      show wpAny _ _ (compareOp .Eq _ _) _ _ _
      refine ke_eq_ints (isList_of hD) (isList_of (e _ _ (F.keep _ _ hl))) hi hj (by simp only [Around.deeper, Around.in1, cLine] at *; omega) ?_
      refine ⟨_, _, rfl, ?_⟩
      walk_at "rb"
      exact h _ _ (F.keep.trans e)
    · have hb : (n == (ys.length : Int)) = false := by simp; omega
      rw [hb]
      walk_at "rb"
      rw [if_neg (by decide)]
      walk_at "rb"
      have hd : decide (ns = ms) = false := decide_eq_false fun q => hll (by rw [q])
      rw [hd] at h
      exact h _ _ F.keep
end
section
variable {prog : Program} {w : World} {A : Around} {E : Value → Shared → Prop} {hp : Heap} {gs : Array GenState} {dr : Drawn} {tk : Nat} {os : OsState} {mg mb : Str → Option Value} {x y dx f : Addr} {sl : List (Option Value)} {Q : Value → Shared → Prop}
theorem gm_eq {pl : Sem Bool} {Q : Value × List Value → Shared → Prop} (X : (KK w).In hp) (hx : hp.get? x = some (IO dx sl)) (hdx : hp.get? dx = some emptyDict) (h : Q (.ref m_dunder_eq, [.ref x]) ⟨hp, gs, dr, tk, os⟩) : wpAny (model prog w) A (getMethod (.ref x) (Str.ofString "__eq__") pl) Q E ⟨hp, gs, dr, tk, os⟩ := gm_fn X (inst_of hx hdx) (by kernel_rfl) (by kernel_rfl) h
theorem no_bool {c : Bool} {s : Shared} (h : Q (.bool (!c)) s) : wpAny (model prog w) A (unaryOp .Not (.bool c)) Q E s := not_value (wpAny_truthy_bool h)
set_option maxHeartbeats 2000000 in
theorem ne_vec {xs ys : List Value} {ns ms : List Int} (T : Tp (KK w) mg mb hp) (V : VecAt hp x xs) (W : VecAt hp y ys) (hi : IntsAre xs ns) (hj : IntsAre ys ms) (hz : ns.length ≤ 1000) (hz2 : ms.length ≤ 1000) (hroom : A.depth < 360) (hu : A.units < 800) (hh : A.handled = none) (hxy : x = y → ns = ms)
    (h : ∀ h' tk', Ext hp h' → Q (.bool (!decide (ns = ms))) ⟨h', gs, dr, tk', os⟩) : wpAny (model prog w) A (call (.ref m_dunder_ne) [.ref x, .ref y]) Q E ⟨hp, gs, dr, tk, os⟩ := by
  obtain ⟨dx, root, tail, n, toff, t1, t2, t3, hx, hdx, hlen⟩ := V.len
  refine wpAny_call ?_
  refine call_fx [] (binds := [(Str.ofString "self", .ref x), (Str.ofString "other", .ref y)]) (by walk_at "room") (T.X _ _ (lk m_dunder_ne (by kernel_rfl))) (by with_unfolding_all rfl) T.nolimit (codeRec_of T.X (by kernel_rfl)) (BindsTo.of_eq (by with_unfolding_all rfl)) (locs (by with_unfolding_all rfl)) (fun _ q => nomatch q) List.nodup_nil ?_ (by decide +kernel)
  intro L h₁ tk F
  have F : Fx hp L h₁ _ [] := F
  walk_at "r"
  refine gm_eq (T.up F.keep).X (F.keep _ _ hx) (F.keep _ _ hdx) ?_
  refine cw_fn T (by kernel_rfl) ?_
  walk_at "r"
  refine ⟨F.keep, ?_⟩
  refine eq_vec (T.up F.keep) (V.up F.keep) (W.up F.keep) hi hj hz hz2 (by walk_at "room") (by simp only [Around.deeper]; omega) hh hxy ?_
  intro h2 tk2 e2
  replace F := F.ext e2
  walk_at "r"
  refine no_bool ?_
  walk_at "r"
  exact h _ _ F.keep
set_option maxHeartbeats 2000000 in
theorem ne_list {l : Addr} {nl : Nat} {xs ys : List Value} {ns ms : List Int} (T : Tp (KK w) mg mb hp) (V : VecAt hp x xs) (hl : hp.get? l = some (LO ys nl)) (hi : IntsAre xs ns) (hj : IntsAre ys ms) (hz : ns.length ≤ 1000) (hz2 : ms.length ≤ 1000) (hroom : A.depth < 360) (hu : A.units < 800) (hh : A.handled = none)
    (h : ∀ h' tk', Ext hp h' → Q (.bool (!decide (ns = ms))) ⟨h', gs, dr, tk', os⟩) : wpAny (model prog w) A (call (.ref m_dunder_ne) [.ref x, .ref l]) Q E ⟨hp, gs, dr, tk, os⟩ := by
  obtain ⟨dx, root, tail, n, toff, t1, t2, t3, hx, hdx, hlen⟩ := V.len
  refine wpAny_call ?_
  refine call_fx [] (binds := [(Str.ofString "self", .ref x), (Str.ofString "other", .ref l)]) (by walk_at "room") (T.X _ _ (lk m_dunder_ne (by kernel_rfl))) (by with_unfolding_all rfl) T.nolimit (codeRec_of T.X (by kernel_rfl)) (BindsTo.of_eq (by with_unfolding_all rfl)) (locs (by with_unfolding_all rfl)) (fun _ q => nomatch q) List.nodup_nil ?_ (by decide +kernel)
  intro L h₁ tk F
  have F : Fx hp L h₁ _ [] := F
  walk_at "r"
  refine gm_eq (T.up F.keep).X (F.keep _ _ hx) (F.keep _ _ hdx) ?_
  refine cw_fn T (by kernel_rfl) ?_
  walk_at "r"
  refine ⟨F.keep, ?_⟩
  refine eq_list (T.up F.keep) (V.up F.keep) (F.keep _ _ hl) hi hj hz hz2 (by walk_at "room") (by simp only [Around.deeper]; omega) hh ?_
  intro h2 tk2 e2
  replace F := F.ext e2
  walk_at "r"
  refine no_bool ?_
  walk_at "r"
  exact h _ _ F.keep
end
theorem ordI_swap : ∀ (ns ms : List Int), ordI ms ns = (ordI ns ms).swap
  | [], [] => rfl
  | [], _ :: _ => rfl
  | _ :: _, [] => rfl
  | a :: r, b :: t => by
    by_cases h : a = b
    · subst h
      simp only [ordI, beq_self_eq_true, if_true]
      exact ordI_swap r t
    · have h1 : (b == a) = false := beq_eq_false_iff_ne.mpr fun q => h q.symm
      have h2 : (a == b) = false := beq_eq_false_iff_ne.mpr h
      simp only [ordI, h1, h2, Bool.false_eq_true, if_false]
      by_cases q : a < b
      · rw [if_pos q, if_neg (show ¬ b < a by omega)]; rfl
      · rw [if_neg q, if_pos (show b < a by omega)]; rfl
theorem say_eq (ns ms : List Int) : decide (ns = ms) = sayO .Eq (ordI ns ms) := by
  by_cases h : ns = ms
  · rw [decide_eq_true h, (ordI_eq ns ms).mpr h]; rfl
  · rw [decide_eq_false h]
    have : ordI ns ms ≠ .eq := fun q => h ((ordI_eq ns ms).mp q)
    unfold sayO
    cases e : ordI ns ms <;> first | rfl | exact absurd e this
theorem say_ne (ns ms : List Int) : (!decide (ns = ms)) = sayO .NotEq (ordI ns ms) := by
  rw [say_eq]; cases ordI ns ms <;> rfl
theorem say_swap_eq (ns ms : List Int) : sayO .Eq (ordI ms ns) = sayO .Eq (ordI ns ms) := by rw [ordI_swap ns ms]; cases ordI ns ms <;> rfl
theorem say_swap_ne (ns ms : List Int) : sayO .NotEq (ordI ms ns) = sayO .NotEq (ordI ns ms) := by rw [ordI_swap ns ms]; cases ordI ns ms <;> rfl
theorem say_swap_lt (ns ms : List Int) : sayO .Gt (ordI ms ns) = sayO .Lt (ordI ns ms) := by rw [ordI_swap ns ms]; cases ordI ns ms <;> rfl
theorem say_swap_le (ns ms : List Int) : sayO .GtE (ordI ms ns) = sayO .LtE (ordI ns ms) := by rw [ordI_swap ns ms]; cases ordI ns ms <;> rfl
theorem say_swap_gt (ns ms : List Int) : sayO .Lt (ordI ms ns) = sayO .Gt (ordI ns ms) := by rw [ordI_swap ns ms]; cases ordI ns ms <;> rfl
theorem say_swap_ge (ns ms : List Int) : sayO .LtE (ordI ms ns) = sayO .GtE (ordI ns ms) := by rw [ordI_swap ns ms]; cases ordI ns ms <;> rfl
section
variable {prog : Program} {w : World} {A : Around} {E : Value → Shared → Prop} {hp : Heap} {gs : Array GenState} {dr : Drawn} {tk : Nat} {os : OsState} {mg mb : Str → Option Value} {x y l : Addr} {nl : Nat} {Q : Value → Shared → Prop} {xs ys : List Value} {ns ms : List Int}
theorem looks_list (hl : hp.get? l = some (LO ys nl)) : Looks (model prog w) hp (typeOf (.ref l)) (.type "list") := fun _ _ _ _ k q => wpAny_typeOf ⟨_, k _ _ hl, rfl⟩ q
theorem sg_vv_eq (T : Tp (KK w) mg mb hp) (V : VecAt hp x xs) (W : VecAt hp y ys) (hi : IntsAre xs ns) (hj : IntsAre ys ms) (hz : ns.length ≤ 1000) (hz2 : ms.length ≤ 1000) (hroom : A.depth < 350) (hu : A.units < 700) (hh : A.handled = none) (hxy : x = y → ns = ms)
    (h : ∀ h' tk', Ext hp h' → Q (.bool (sayO .Eq (ordI ns ms))) ⟨h', gs, dr, tk', os⟩) : wpAny (model prog w) A (compareOp .Eq (.ref x) (.ref y)) Q E ⟨hp, gs, dr, tk, os⟩ := by
  obtain ⟨dx, _, _, _, _, _, _, _, hx, hdx, _⟩ := V.len
  obtain ⟨dy, _, _, _, _, _, _, _, hy, hdy, _⟩ := W.len
  rw [← say_eq] at h
  show wpAny _ _ (richCompare .Eq _ _) _ _ _
  exact own_left T.X hx hdx (by simp only [cLine]; omega) (inst_of hy hdy).type nf_own fi_eq ty_eq (eq_vec T V W hi hj hz hz2 (by omega) (by omega) hh hxy fun h' tk' e => h _ _ e)
theorem sg_vl_eq (T : Tp (KK w) mg mb hp) (V : VecAt hp x xs) (hl : hp.get? l = some (LO ys nl)) (hi : IntsAre xs ns) (hj : IntsAre ys ms) (hz : ns.length ≤ 1000) (hz2 : ms.length ≤ 1000) (hroom : A.depth < 350) (hu : A.units < 700) (hh : A.handled = none)
    (h : ∀ h' tk', Ext hp h' → Q (.bool (sayO .Eq (ordI ns ms))) ⟨h', gs, dr, tk', os⟩) : wpAny (model prog w) A (compareOp .Eq (.ref x) (.ref l)) Q E ⟨hp, gs, dr, tk, os⟩ := by
  obtain ⟨dx, _, _, _, _, _, _, _, hx, hdx, _⟩ := V.len
  rw [← say_eq] at h
  show wpAny _ _ (richCompare .Eq _ _) _ _ _
  exact own_left T.X hx hdx (by simp only [cLine]; omega) (looks_list hl) nf_list fi_eq ty_eq (eq_list T V hl hi hj hz hz2 (by omega) (by omega) hh fun h' tk' e => h _ _ e)
theorem sg_lv_eq (T : Tp (KK w) mg mb hp) (hl : hp.get? l = some (LO ys nl)) (V : VecAt hp x xs) (hi : IntsAre xs ns) (hj : IntsAre ys ms) (hz : ns.length ≤ 1000) (hz2 : ms.length ≤ 1000) (hroom : A.depth < 350) (hu : A.units < 700) (hh : A.handled = none)
    (h : ∀ h' tk', Ext hp h' → Q (.bool (sayO .Eq (ordI ms ns))) ⟨h', gs, dr, tk', os⟩) : wpAny (model prog w) A (compareOp .Eq (.ref l) (.ref x)) Q E ⟨hp, gs, dr, tk, os⟩ := by
  obtain ⟨dx, _, _, _, _, _, _, _, hx, hdx, _⟩ := V.len
  rw [← say_swap_eq ms ns] at h
  rw [← say_eq] at h
  show wpAny _ _ (richCompare .Eq _ _) _ _ _
  exact own_right T.X hx hdx (by simp only [cLine]; omega) (isList_of hl).typeIs sb_list PySem.F.slot_list_eq (fun Q E q => Lc.d_list_eq hl (inst_of hx hdx).type (looks_subIn T.X sb_list) q) fi_eq ty_eq (eq_list T V hl hi hj hz hz2 (by omega) (by omega) hh fun h' tk' e => h _ _ e)
theorem sg_vv_ne (T : Tp (KK w) mg mb hp) (V : VecAt hp x xs) (W : VecAt hp y ys) (hi : IntsAre xs ns) (hj : IntsAre ys ms) (hz : ns.length ≤ 1000) (hz2 : ms.length ≤ 1000) (hroom : A.depth < 350) (hu : A.units < 700) (hh : A.handled = none) (hxy : x = y → ns = ms)
    (h : ∀ h' tk', Ext hp h' → Q (.bool (sayO .NotEq (ordI ns ms))) ⟨h', gs, dr, tk', os⟩) : wpAny (model prog w) A (compareOp .NotEq (.ref x) (.ref y)) Q E ⟨hp, gs, dr, tk, os⟩ := by
  obtain ⟨dx, _, _, _, _, _, _, _, hx, hdx, _⟩ := V.len
  obtain ⟨dy, _, _, _, _, _, _, _, hy, hdy, _⟩ := W.len
  rw [← say_ne] at h
  show wpAny _ _ (richCompare .NotEq _ _) _ _ _
  exact own_left T.X hx hdx (by simp only [cLine]; omega) (inst_of hy hdy).type nf_own fi_ne ty_ne (ne_vec T V W hi hj hz hz2 (by omega) (by omega) hh hxy fun h' tk' e => h _ _ e)
theorem sg_vl_ne (T : Tp (KK w) mg mb hp) (V : VecAt hp x xs) (hl : hp.get? l = some (LO ys nl)) (hi : IntsAre xs ns) (hj : IntsAre ys ms) (hz : ns.length ≤ 1000) (hz2 : ms.length ≤ 1000) (hroom : A.depth < 350) (hu : A.units < 700) (hh : A.handled = none)
    (h : ∀ h' tk', Ext hp h' → Q (.bool (sayO .NotEq (ordI ns ms))) ⟨h', gs, dr, tk', os⟩) : wpAny (model prog w) A (compareOp .NotEq (.ref x) (.ref l)) Q E ⟨hp, gs, dr, tk, os⟩ := by
  obtain ⟨dx, _, _, _, _, _, _, _, hx, hdx, _⟩ := V.len
  rw [← say_ne] at h
  show wpAny _ _ (richCompare .NotEq _ _) _ _ _
  exact own_left T.X hx hdx (by simp only [cLine]; omega) (looks_list hl) nf_list fi_ne ty_ne (ne_list T V hl hi hj hz hz2 (by omega) (by omega) hh fun h' tk' e => h _ _ e)
theorem sg_lv_ne (T : Tp (KK w) mg mb hp) (hl : hp.get? l = some (LO ys nl)) (V : VecAt hp x xs) (hi : IntsAre xs ns) (hj : IntsAre ys ms) (hz : ns.length ≤ 1000) (hz2 : ms.length ≤ 1000) (hroom : A.depth < 350) (hu : A.units < 700) (hh : A.handled = none)
    (h : ∀ h' tk', Ext hp h' → Q (.bool (sayO .NotEq (ordI ms ns))) ⟨h', gs, dr, tk', os⟩) : wpAny (model prog w) A (compareOp .NotEq (.ref l) (.ref x)) Q E ⟨hp, gs, dr, tk, os⟩ := by
  obtain ⟨dx, _, _, _, _, _, _, _, hx, hdx, _⟩ := V.len
  rw [← say_swap_ne ms ns] at h
  rw [← say_ne] at h
  show wpAny _ _ (richCompare .NotEq _ _) _ _ _
  exact own_right T.X hx hdx (by simp only [cLine]; omega) (isList_of hl).typeIs sb_list PySem.F.slot_list_ne (fun Q E q => Lc.d_list_ne hl (inst_of hx hdx).type (looks_subIn T.X sb_list) q) fi_ne ty_ne (ne_list T V hl hi hj hz hz2 (by omega) (by omega) hh fun h' tk' e => h _ _ e)
theorem sg_vv_lt (T : Tp (KK w) mg mb hp) (V : VecAt hp x xs) (W : VecAt hp y ys) (hi : IntsAre xs ns) (hj : IntsAre ys ms) (hz : ns.length ≤ 1000) (hz2 : ms.length ≤ 1000) (hroom : A.depth < 350) (hu : A.units < 700) (hh : A.handled = none) (hxy : x = y → ns = ms)
    (h : ∀ h' tk', Ext hp h' → Q (.bool (sayO .Lt (ordI ns ms))) ⟨h', gs, dr, tk', os⟩) : wpAny (model prog w) A (compareOp .Lt (.ref x) (.ref y)) Q E ⟨hp, gs, dr, tk, os⟩ := by
  obtain ⟨dx, _, _, _, _, _, _, _, hx, hdx, _⟩ := V.len
  obtain ⟨dy, _, _, _, _, _, _, _, hy, hdy, _⟩ := W.len
  show wpAny _ _ (richCompare .Lt _ _) _ _ _
  exact own_left T.X hx hdx (by simp only [cLine]; omega) (inst_of hy hdy).type nf_own fi_lt ty_lt (lt_vec T V W hi hj hz hz2 (by omega) (by omega) hh fun h' tk' e => h _ _ e)
theorem sg_vl_lt (T : Tp (KK w) mg mb hp) (V : VecAt hp x xs) (hl : hp.get? l = some (LO ys nl)) (hi : IntsAre xs ns) (hj : IntsAre ys ms) (hz : ns.length ≤ 1000) (hz2 : ms.length ≤ 1000) (hroom : A.depth < 350) (hu : A.units < 700) (hh : A.handled = none)
    (h : ∀ h' tk', Ext hp h' → Q (.bool (sayO .Lt (ordI ns ms))) ⟨h', gs, dr, tk', os⟩) : wpAny (model prog w) A (compareOp .Lt (.ref x) (.ref l)) Q E ⟨hp, gs, dr, tk, os⟩ := by
  obtain ⟨dx, _, _, _, _, _, _, _, hx, hdx, _⟩ := V.len
  show wpAny _ _ (richCompare .Lt _ _) _ _ _
  exact own_left T.X hx hdx (by simp only [cLine]; omega) (looks_list hl) nf_list fi_lt ty_lt (lt_list T V hl hi hj hz (by omega) (by omega) hh fun h' tk' e => h _ _ e)
theorem sg_lv_lt (T : Tp (KK w) mg mb hp) (hl : hp.get? l = some (LO ys nl)) (V : VecAt hp x xs) (hi : IntsAre xs ns) (hj : IntsAre ys ms) (hz : ns.length ≤ 1000) (hz2 : ms.length ≤ 1000) (hroom : A.depth < 350) (hu : A.units < 700) (hh : A.handled = none)
    (h : ∀ h' tk', Ext hp h' → Q (.bool (sayO .Lt (ordI ms ns))) ⟨h', gs, dr, tk', os⟩) : wpAny (model prog w) A (compareOp .Lt (.ref l) (.ref x)) Q E ⟨hp, gs, dr, tk, os⟩ := by
  obtain ⟨dx, _, _, _, _, _, _, _, hx, hdx, _⟩ := V.len
  rw [← say_swap_lt ms ns] at h
  show wpAny _ _ (richCompare .Lt _ _) _ _ _
  exact own_right T.X hx hdx (by simp only [cLine]; omega) (isList_of hl).typeIs sb_list PySem.F.slot_list_lt (fun Q E q => Lc.d_list_lt hl (inst_of hx hdx).type (looks_subIn T.X sb_list) q) fi_gt ty_gt (gt_list T V hl hi hj hz (by omega) (by omega) hh fun h' tk' e => h _ _ e)
theorem sg_vv_le (T : Tp (KK w) mg mb hp) (V : VecAt hp x xs) (W : VecAt hp y ys) (hi : IntsAre xs ns) (hj : IntsAre ys ms) (hz : ns.length ≤ 1000) (hz2 : ms.length ≤ 1000) (hroom : A.depth < 350) (hu : A.units < 700) (hh : A.handled = none) (hxy : x = y → ns = ms)
    (h : ∀ h' tk', Ext hp h' → Q (.bool (sayO .LtE (ordI ns ms))) ⟨h', gs, dr, tk', os⟩) : wpAny (model prog w) A (compareOp .LtE (.ref x) (.ref y)) Q E ⟨hp, gs, dr, tk, os⟩ := by
  obtain ⟨dx, _, _, _, _, _, _, _, hx, hdx, _⟩ := V.len
  obtain ⟨dy, _, _, _, _, _, _, _, hy, hdy, _⟩ := W.len
  show wpAny _ _ (richCompare .LtE _ _) _ _ _
  exact own_left T.X hx hdx (by simp only [cLine]; omega) (inst_of hy hdy).type nf_own fi_le ty_le (le_vec T V W hi hj hz hz2 (by omega) (by omega) hh fun h' tk' e => h _ _ e)
theorem sg_vl_le (T : Tp (KK w) mg mb hp) (V : VecAt hp x xs) (hl : hp.get? l = some (LO ys nl)) (hi : IntsAre xs ns) (hj : IntsAre ys ms) (hz : ns.length ≤ 1000) (hz2 : ms.length ≤ 1000) (hroom : A.depth < 350) (hu : A.units < 700) (hh : A.handled = none)
    (h : ∀ h' tk', Ext hp h' → Q (.bool (sayO .LtE (ordI ns ms))) ⟨h', gs, dr, tk', os⟩) : wpAny (model prog w) A (compareOp .LtE (.ref x) (.ref l)) Q E ⟨hp, gs, dr, tk, os⟩ := by
  obtain ⟨dx, _, _, _, _, _, _, _, hx, hdx, _⟩ := V.len
  show wpAny _ _ (richCompare .LtE _ _) _ _ _
  exact own_left T.X hx hdx (by simp only [cLine]; omega) (looks_list hl) nf_list fi_le ty_le (le_list T V hl hi hj hz (by omega) (by omega) hh fun h' tk' e => h _ _ e)
theorem sg_lv_le (T : Tp (KK w) mg mb hp) (hl : hp.get? l = some (LO ys nl)) (V : VecAt hp x xs) (hi : IntsAre xs ns) (hj : IntsAre ys ms) (hz : ns.length ≤ 1000) (hz2 : ms.length ≤ 1000) (hroom : A.depth < 350) (hu : A.units < 700) (hh : A.handled = none)
    (h : ∀ h' tk', Ext hp h' → Q (.bool (sayO .LtE (ordI ms ns))) ⟨h', gs, dr, tk', os⟩) : wpAny (model prog w) A (compareOp .LtE (.ref l) (.ref x)) Q E ⟨hp, gs, dr, tk, os⟩ := by
  obtain ⟨dx, _, _, _, _, _, _, _, hx, hdx, _⟩ := V.len
  rw [← say_swap_le ms ns] at h
  show wpAny _ _ (richCompare .LtE _ _) _ _ _
  exact own_right T.X hx hdx (by simp only [cLine]; omega) (isList_of hl).typeIs sb_list PySem.F.slot_list_le (fun Q E q => Lc.d_list_le hl (inst_of hx hdx).type (looks_subIn T.X sb_list) q) fi_ge ty_ge (ge_list T V hl hi hj hz (by omega) (by omega) hh fun h' tk' e => h _ _ e)
theorem sg_vv_gt (T : Tp (KK w) mg mb hp) (V : VecAt hp x xs) (W : VecAt hp y ys) (hi : IntsAre xs ns) (hj : IntsAre ys ms) (hz : ns.length ≤ 1000) (hz2 : ms.length ≤ 1000) (hroom : A.depth < 350) (hu : A.units < 700) (hh : A.handled = none) (hxy : x = y → ns = ms)
    (h : ∀ h' tk', Ext hp h' → Q (.bool (sayO .Gt (ordI ns ms))) ⟨h', gs, dr, tk', os⟩) : wpAny (model prog w) A (compareOp .Gt (.ref x) (.ref y)) Q E ⟨hp, gs, dr, tk, os⟩ := by
  obtain ⟨dx, _, _, _, _, _, _, _, hx, hdx, _⟩ := V.len
  obtain ⟨dy, _, _, _, _, _, _, _, hy, hdy, _⟩ := W.len
  show wpAny _ _ (richCompare .Gt _ _) _ _ _
  exact own_left T.X hx hdx (by simp only [cLine]; omega) (inst_of hy hdy).type nf_own fi_gt ty_gt (gt_vec T V W hi hj hz hz2 (by omega) (by omega) hh fun h' tk' e => h _ _ e)
theorem sg_vl_gt (T : Tp (KK w) mg mb hp) (V : VecAt hp x xs) (hl : hp.get? l = some (LO ys nl)) (hi : IntsAre xs ns) (hj : IntsAre ys ms) (hz : ns.length ≤ 1000) (hz2 : ms.length ≤ 1000) (hroom : A.depth < 350) (hu : A.units < 700) (hh : A.handled = none)
    (h : ∀ h' tk', Ext hp h' → Q (.bool (sayO .Gt (ordI ns ms))) ⟨h', gs, dr, tk', os⟩) : wpAny (model prog w) A (compareOp .Gt (.ref x) (.ref l)) Q E ⟨hp, gs, dr, tk, os⟩ := by
  obtain ⟨dx, _, _, _, _, _, _, _, hx, hdx, _⟩ := V.len
  show wpAny _ _ (richCompare .Gt _ _) _ _ _
  exact own_left T.X hx hdx (by simp only [cLine]; omega) (looks_list hl) nf_list fi_gt ty_gt (gt_list T V hl hi hj hz (by omega) (by omega) hh fun h' tk' e => h _ _ e)
theorem sg_lv_gt (T : Tp (KK w) mg mb hp) (hl : hp.get? l = some (LO ys nl)) (V : VecAt hp x xs) (hi : IntsAre xs ns) (hj : IntsAre ys ms) (hz : ns.length ≤ 1000) (hz2 : ms.length ≤ 1000) (hroom : A.depth < 350) (hu : A.units < 700) (hh : A.handled = none)
    (h : ∀ h' tk', Ext hp h' → Q (.bool (sayO .Gt (ordI ms ns))) ⟨h', gs, dr, tk', os⟩) : wpAny (model prog w) A (compareOp .Gt (.ref l) (.ref x)) Q E ⟨hp, gs, dr, tk, os⟩ := by
  obtain ⟨dx, _, _, _, _, _, _, _, hx, hdx, _⟩ := V.len
  rw [← say_swap_gt ms ns] at h
  show wpAny _ _ (richCompare .Gt _ _) _ _ _
  exact own_right T.X hx hdx (by simp only [cLine]; omega) (isList_of hl).typeIs sb_list PySem.F.slot_list_gt (fun Q E q => Lc.d_list_gt hl (inst_of hx hdx).type (looks_subIn T.X sb_list) q) fi_lt ty_lt (lt_list T V hl hi hj hz (by omega) (by omega) hh fun h' tk' e => h _ _ e)
theorem sg_vv_ge (T : Tp (KK w) mg mb hp) (V : VecAt hp x xs) (W : VecAt hp y ys) (hi : IntsAre xs ns) (hj : IntsAre ys ms) (hz : ns.length ≤ 1000) (hz2 : ms.length ≤ 1000) (hroom : A.depth < 350) (hu : A.units < 700) (hh : A.handled = none) (hxy : x = y → ns = ms)
    (h : ∀ h' tk', Ext hp h' → Q (.bool (sayO .GtE (ordI ns ms))) ⟨h', gs, dr, tk', os⟩) : wpAny (model prog w) A (compareOp .GtE (.ref x) (.ref y)) Q E ⟨hp, gs, dr, tk, os⟩ := by
  obtain ⟨dx, _, _, _, _, _, _, _, hx, hdx, _⟩ := V.len
  obtain ⟨dy, _, _, _, _, _, _, _, hy, hdy, _⟩ := W.len
  show wpAny _ _ (richCompare .GtE _ _) _ _ _
  exact own_left T.X hx hdx (by simp only [cLine]; omega) (inst_of hy hdy).type nf_own fi_ge ty_ge (ge_vec T V W hi hj hz hz2 (by omega) (by omega) hh fun h' tk' e => h _ _ e)
theorem sg_vl_ge (T : Tp (KK w) mg mb hp) (V : VecAt hp x xs) (hl : hp.get? l = some (LO ys nl)) (hi : IntsAre xs ns) (hj : IntsAre ys ms) (hz : ns.length ≤ 1000) (hz2 : ms.length ≤ 1000) (hroom : A.depth < 350) (hu : A.units < 700) (hh : A.handled = none)
    (h : ∀ h' tk', Ext hp h' → Q (.bool (sayO .GtE (ordI ns ms))) ⟨h', gs, dr, tk', os⟩) : wpAny (model prog w) A (compareOp .GtE (.ref x) (.ref l)) Q E ⟨hp, gs, dr, tk, os⟩ := by
  obtain ⟨dx, _, _, _, _, _, _, _, hx, hdx, _⟩ := V.len
  show wpAny _ _ (richCompare .GtE _ _) _ _ _
  exact own_left T.X hx hdx (by simp only [cLine]; omega) (looks_list hl) nf_list fi_ge ty_ge (ge_list T V hl hi hj hz (by omega) (by omega) hh fun h' tk' e => h _ _ e)
theorem sg_lv_ge (T : Tp (KK w) mg mb hp) (hl : hp.get? l = some (LO ys nl)) (V : VecAt hp x xs) (hi : IntsAre xs ns) (hj : IntsAre ys ms) (hz : ns.length ≤ 1000) (hz2 : ms.length ≤ 1000) (hroom : A.depth < 350) (hu : A.units < 700) (hh : A.handled = none)
    (h : ∀ h' tk', Ext hp h' → Q (.bool (sayO .GtE (ordI ms ns))) ⟨h', gs, dr, tk', os⟩) : wpAny (model prog w) A (compareOp .GtE (.ref l) (.ref x)) Q E ⟨hp, gs, dr, tk, os⟩ := by
  obtain ⟨dx, _, _, _, _, _, _, _, hx, hdx, _⟩ := V.len
  rw [← say_swap_ge ms ns] at h
  show wpAny _ _ (richCompare .GtE _ _) _ _ _
  exact own_right T.X hx hdx (by simp only [cLine]; omega) (isList_of hl).typeIs sb_list PySem.F.slot_list_ge (fun Q E q => Lc.d_list_ge hl (inst_of hx hdx).type (looks_subIn T.X sb_list) q) fi_le ty_le (le_list T V hl hi hj hz (by omega) (by omega) hh fun h' tk' e => h _ _ e)
end
section
variable {prog : Program} {w : World} {A : Around} {E : Value → Shared → Prop} {hp : Heap} {gs : Array GenState} {dr : Drawn} {tk : Nat} {os : OsState} {mg mb : Str → Option Value} {x : Addr} {Q : Value → Shared → Prop}
set_option maxHeartbeats 1000000 in
theorem lt_refused {base : Heap} {outer : List Env} {other : Value} {xs : List Value} (T : Tp (KK w) mg mb hp) (V : VecAt hp x xs) (hz : xs.length ≤ 1000) (hroom : A.depth < 370) (hh : A.handled = none)
    (hfr : A.frames = some outer) (hb : Ext base hp) (hff : hp.FunFrames base outer)
    (hin : ∀ (A : Around) (Q E : Value → Shared → Prop) (h' : Heap) tk, Ext hp h' → (∀ tk', Q (.bool false) ⟨h', gs, dr, tk', os⟩) → wpAny (model prog w) A (call (.builtin "isinstance") [other, .ref aC]) Q E ⟨h', gs, dr, tk, os⟩)
    (hc : ∀ (A' : Around) (Q' E' : Value → Shared → Prop) h' tk' D c, A'.units ≤ A.units + 20 → A'.handled = none → Ext hp h' → h'.get? D = some (LO xs c) → (∀ e h'' tk'', Heap.NewExc h' h'' e "TypeError" → E' (.ref e) ⟨h'', gs, dr, tk'', os⟩) → wpAny (model prog w) A' (call (.builtin "_operator.lt") [.ref D, other]) Q' E' ⟨h', gs, dr, tk', os⟩)
    (hn : ∀ e h' tk', Thrown base hp outer "TypeError" e h' → E (.ref e) ⟨h', gs, dr, tk', os⟩) : wpAny (model prog w) A (call (.ref m_dunder_lt) [.ref x, other]) Q E ⟨hp, gs, dr, tk, os⟩ := by
  refine wpAny_call ?_
  refine call_fx [] (binds := [(Str.ofString "self", .ref x), (Str.ofString "other", other)]) (by walk_at "room") (T.X _ _ (lk m_dunder_lt (by kernel_rfl))) (by with_unfolding_all rfl) T.nolimit (codeRec_of T.X (by kernel_rfl)) (BindsTo.of_eq (by with_unfolding_all rfl)) (locs (by with_unfolding_all rfl)) (fun _ q => nomatch q) List.nodup_nil ?_ (by decide +kernel)
  intro L h₁ tk F
  have F : Fx hp L h₁ _ [] := F
  walk_at "r"
  refine cw_fn T (by kernel_rfl) ?_
  walk_at "r"
  refine ⟨F.keep, ?_⟩
  refine cmp_refused (base := base) (outer := envX _ _ _ _ _ _ :: outer) (T.up F.keep) (V.up F.keep) hz (by walk_at "room") hh (Around.frames_deeper hfr) (hb.trans F.keep) (frames_of F (by with_unfolding_all decide) (hb.none F.lout) (hff.of_keeps fun c o hc _ => ⟨o, F.keep c o hc, rfl⟩))
    (fun A Q E h' tk e q => hin A Q E h' tk (F.keep.trans e) q) (fun A' Q' E' h' tk' D c hu' hA e hD ex => hc A' Q' E' h' tk' D c (by simp only [Around.deeper] at *; omega) hA (F.keep.trans e) hD ex) ?_
  intro e h2 tk2 th
  exact leave_on (hq := hp) hfr F.keep th fun h'' t => hn e h'' _ t
set_option maxHeartbeats 1000000 in
theorem le_refused {base : Heap} {outer : List Env} {other : Value} {xs : List Value} (T : Tp (KK w) mg mb hp) (V : VecAt hp x xs) (hz : xs.length ≤ 1000) (hroom : A.depth < 370) (hh : A.handled = none)
    (hfr : A.frames = some outer) (hb : Ext base hp) (hff : hp.FunFrames base outer)
    (hin : ∀ (A : Around) (Q E : Value → Shared → Prop) (h' : Heap) tk, Ext hp h' → (∀ tk', Q (.bool false) ⟨h', gs, dr, tk', os⟩) → wpAny (model prog w) A (call (.builtin "isinstance") [other, .ref aC]) Q E ⟨h', gs, dr, tk, os⟩)
    (hc : ∀ (A' : Around) (Q' E' : Value → Shared → Prop) h' tk' D c, A'.units ≤ A.units + 20 → A'.handled = none → Ext hp h' → h'.get? D = some (LO xs c) → (∀ e h'' tk'', Heap.NewExc h' h'' e "TypeError" → E' (.ref e) ⟨h'', gs, dr, tk'', os⟩) → wpAny (model prog w) A' (call (.builtin "_operator.le") [.ref D, other]) Q' E' ⟨h', gs, dr, tk', os⟩)
    (hn : ∀ e h' tk', Thrown base hp outer "TypeError" e h' → E (.ref e) ⟨h', gs, dr, tk', os⟩) : wpAny (model prog w) A (call (.ref m_dunder_le) [.ref x, other]) Q E ⟨hp, gs, dr, tk, os⟩ := by
  refine wpAny_call ?_
  refine call_fx [] (binds := [(Str.ofString "self", .ref x), (Str.ofString "other", other)]) (by walk_at "room") (T.X _ _ (lk m_dunder_le (by kernel_rfl))) (by with_unfolding_all rfl) T.nolimit (codeRec_of T.X (by kernel_rfl)) (BindsTo.of_eq (by with_unfolding_all rfl)) (locs (by with_unfolding_all rfl)) (fun _ q => nomatch q) List.nodup_nil ?_ (by decide +kernel)
  intro L h₁ tk F
  have F : Fx hp L h₁ _ [] := F
  walk_at "r"
  refine cw_fn T (by kernel_rfl) ?_
  walk_at "r"
  refine ⟨F.keep, ?_⟩
  refine cmp_refused (base := base) (outer := envX _ _ _ _ _ _ :: outer) (T.up F.keep) (V.up F.keep) hz (by walk_at "room") hh (Around.frames_deeper hfr) (hb.trans F.keep) (frames_of F (by with_unfolding_all decide) (hb.none F.lout) (hff.of_keeps fun c o hc _ => ⟨o, F.keep c o hc, rfl⟩))
    (fun A Q E h' tk e q => hin A Q E h' tk (F.keep.trans e) q) (fun A' Q' E' h' tk' D c hu' hA e hD ex => hc A' Q' E' h' tk' D c (by simp only [Around.deeper] at *; omega) hA (F.keep.trans e) hD ex) ?_
  intro e h2 tk2 th
  exact leave_on (hq := hp) hfr F.keep th fun h'' t => hn e h'' _ t
set_option maxHeartbeats 1000000 in
theorem gt_refused {base : Heap} {outer : List Env} {other : Value} {xs : List Value} (T : Tp (KK w) mg mb hp) (V : VecAt hp x xs) (hz : xs.length ≤ 1000) (hroom : A.depth < 370) (hh : A.handled = none)
    (hfr : A.frames = some outer) (hb : Ext base hp) (hff : hp.FunFrames base outer)
    (hin : ∀ (A : Around) (Q E : Value → Shared → Prop) (h' : Heap) tk, Ext hp h' → (∀ tk', Q (.bool false) ⟨h', gs, dr, tk', os⟩) → wpAny (model prog w) A (call (.builtin "isinstance") [other, .ref aC]) Q E ⟨h', gs, dr, tk, os⟩)
    (hc : ∀ (A' : Around) (Q' E' : Value → Shared → Prop) h' tk' D c, A'.units ≤ A.units + 20 → A'.handled = none → Ext hp h' → h'.get? D = some (LO xs c) → (∀ e h'' tk'', Heap.NewExc h' h'' e "TypeError" → E' (.ref e) ⟨h'', gs, dr, tk'', os⟩) → wpAny (model prog w) A' (call (.builtin "_operator.gt") [.ref D, other]) Q' E' ⟨h', gs, dr, tk', os⟩)
    (hn : ∀ e h' tk', Thrown base hp outer "TypeError" e h' → E (.ref e) ⟨h', gs, dr, tk', os⟩) : wpAny (model prog w) A (call (.ref m_dunder_gt) [.ref x, other]) Q E ⟨hp, gs, dr, tk, os⟩ := by
  refine wpAny_call ?_
  refine call_fx [] (binds := [(Str.ofString "self", .ref x), (Str.ofString "other", other)]) (by walk_at "room") (T.X _ _ (lk m_dunder_gt (by kernel_rfl))) (by with_unfolding_all rfl) T.nolimit (codeRec_of T.X (by kernel_rfl)) (BindsTo.of_eq (by with_unfolding_all rfl)) (locs (by with_unfolding_all rfl)) (fun _ q => nomatch q) List.nodup_nil ?_ (by decide +kernel)
  intro L h₁ tk F
  have F : Fx hp L h₁ _ [] := F
  walk_at "r"
  refine cw_fn T (by kernel_rfl) ?_
  walk_at "r"
  refine ⟨F.keep, ?_⟩
  refine cmp_refused (base := base) (outer := envX _ _ _ _ _ _ :: outer) (T.up F.keep) (V.up F.keep) hz (by walk_at "room") hh (Around.frames_deeper hfr) (hb.trans F.keep) (frames_of F (by with_unfolding_all decide) (hb.none F.lout) (hff.of_keeps fun c o hc _ => ⟨o, F.keep c o hc, rfl⟩))
    (fun A Q E h' tk e q => hin A Q E h' tk (F.keep.trans e) q) (fun A' Q' E' h' tk' D c hu' hA e hD ex => hc A' Q' E' h' tk' D c (by simp only [Around.deeper] at *; omega) hA (F.keep.trans e) hD ex) ?_
  intro e h2 tk2 th
  exact leave_on (hq := hp) hfr F.keep th fun h'' t => hn e h'' _ t
set_option maxHeartbeats 1000000 in
theorem ge_refused {base : Heap} {outer : List Env} {other : Value} {xs : List Value} (T : Tp (KK w) mg mb hp) (V : VecAt hp x xs) (hz : xs.length ≤ 1000) (hroom : A.depth < 370) (hh : A.handled = none)
    (hfr : A.frames = some outer) (hb : Ext base hp) (hff : hp.FunFrames base outer)
    (hin : ∀ (A : Around) (Q E : Value → Shared → Prop) (h' : Heap) tk, Ext hp h' → (∀ tk', Q (.bool false) ⟨h', gs, dr, tk', os⟩) → wpAny (model prog w) A (call (.builtin "isinstance") [other, .ref aC]) Q E ⟨h', gs, dr, tk, os⟩)
    (hc : ∀ (A' : Around) (Q' E' : Value → Shared → Prop) h' tk' D c, A'.units ≤ A.units + 20 → A'.handled = none → Ext hp h' → h'.get? D = some (LO xs c) → (∀ e h'' tk'', Heap.NewExc h' h'' e "TypeError" → E' (.ref e) ⟨h'', gs, dr, tk'', os⟩) → wpAny (model prog w) A' (call (.builtin "_operator.ge") [.ref D, other]) Q' E' ⟨h', gs, dr, tk', os⟩)
    (hn : ∀ e h' tk', Thrown base hp outer "TypeError" e h' → E (.ref e) ⟨h', gs, dr, tk', os⟩) : wpAny (model prog w) A (call (.ref m_dunder_ge) [.ref x, other]) Q E ⟨hp, gs, dr, tk, os⟩ := by
  refine wpAny_call ?_
  refine call_fx [] (binds := [(Str.ofString "self", .ref x), (Str.ofString "other", other)]) (by walk_at "room") (T.X _ _ (lk m_dunder_ge (by kernel_rfl))) (by with_unfolding_all rfl) T.nolimit (codeRec_of T.X (by kernel_rfl)) (BindsTo.of_eq (by with_unfolding_all rfl)) (locs (by with_unfolding_all rfl)) (fun _ q => nomatch q) List.nodup_nil ?_ (by decide +kernel)
  intro L h₁ tk F
  have F : Fx hp L h₁ _ [] := F
  walk_at "r"
  refine cw_fn T (by kernel_rfl) ?_
  walk_at "r"
  refine ⟨F.keep, ?_⟩
  refine cmp_refused (base := base) (outer := envX _ _ _ _ _ _ :: outer) (T.up F.keep) (V.up F.keep) hz (by walk_at "room") hh (Around.frames_deeper hfr) (hb.trans F.keep) (frames_of F (by with_unfolding_all decide) (hb.none F.lout) (hff.of_keeps fun c o hc _ => ⟨o, F.keep c o hc, rfl⟩))
    (fun A Q E h' tk e q => hin A Q E h' tk (F.keep.trans e) q) (fun A' Q' E' h' tk' D c hu' hA e hD ex => hc A' Q' E' h' tk' D c (by simp only [Around.deeper] at *; omega) hA (F.keep.trans e) hD ex) ?_
  intro e h2 tk2 th
  exact leave_on (hq := hp) hfr F.keep th fun h'' t => hn e h'' _ t
end
namespace Lc
theorem st_tuple : isSubtype (.type "tuple") (.type "list") = pure false := by rw [isSubtype_type]; kernel_rfl
theorem st_int : isSubtype (.type "int") (.type "list") = pure false := by rw [isSubtype_type]; kernel_rfl
theorem st_str : isSubtype (.type "str") (.type "list") = pure false := by rw [isSubtype_type]; kernel_rfl
theorem st_NoneType : isSubtype (.type "NoneType") (.type "list") = pure false := by rw [isSubtype_type]; kernel_rfl
theorem st_list_tuple : isSubtype (.type "list") (.type "tuple") = pure false := by rw [isSubtype_type]; kernel_rfl
end Lc
section
variable {prog : Program} {w : World} {A : Around} {E : Value → Shared → Prop} {hp : Heap} {gs : Array GenState} {dr : Drawn} {tk : Nat} {os : OsState} {Q : Value → Shared → Prop} {D : Addr} {xs : List Value} {c : Nat}
theorem isi_tuple {t : Addr} {its : List Value} {nt : Nat} (ht : hp.get? t = some { cls := .type "tuple", data := .seq its.toArray nt }) (X : (KK w).In hp) (h : ∀ tk, Q (.bool false) ⟨hp, gs, dr, tk, os⟩) : wpAny (model prog w) A (call (.builtin "isinstance") [.ref t, .ref aC]) Q E ⟨hp, gs, dr, tk, os⟩ :=
  kia_one kitx_tuple X ⟨_, ht, rfl⟩ (by kernel_rfl) (by intro q; cases q) h
theorem rfz_lt_tuple {t : Addr} {its : List Value} {nt : Nat} (ht : hp.get? t = some { cls := .type "tuple", data := .seq its.toArray nt }) (hD : hp.get? D = some (LO xs c)) (hh : A.handled = none) (hu : A.units < 900) (h : ∀ e h' tk', Heap.NewExc hp h' e "TypeError" → E (.ref e) ⟨h', gs, dr, tk', os⟩) : wpAny (model prog w) A (call (.builtin "_operator.lt") [.ref D, .ref t]) Q E ⟨hp, gs, dr, tk, os⟩ :=
  op_lt (list_refused .lt hh (by simp only [Around.in1, cLine]; omega) (isList_of hD).typeIs (⟨_, ht, rfl⟩) (by decide) Lc.st_tuple PySem.F.slot_list_lt PySem.F.slot_tuple_gt_refl (by decide)
    (fun Q E q => Lc.d_list_lt hD (fun _ _ _ _ k q => wpAny_typeOf ⟨_, k _ _ ht, rfl⟩ q) (fun _ _ _ _ _ q => wpAny_of_eq Lc.st_tuple q) q) (fun Q E q => Lc.d_tuple_gt ⟨_, ht, rfl⟩ (fun _ _ _ _ k q => wpAny_typeOf ⟨_, k _ _ hD, rfl⟩ q) (fun _ _ _ _ _ q => wpAny_of_eq Lc.st_list_tuple q) q) (by decide) fun h' tk' e ne => h e h' tk' ne)
theorem rfz_le_tuple {t : Addr} {its : List Value} {nt : Nat} (ht : hp.get? t = some { cls := .type "tuple", data := .seq its.toArray nt }) (hD : hp.get? D = some (LO xs c)) (hh : A.handled = none) (hu : A.units < 900) (h : ∀ e h' tk', Heap.NewExc hp h' e "TypeError" → E (.ref e) ⟨h', gs, dr, tk', os⟩) : wpAny (model prog w) A (call (.builtin "_operator.le") [.ref D, .ref t]) Q E ⟨hp, gs, dr, tk, os⟩ :=
  op_le (list_refused .le hh (by simp only [Around.in1, cLine]; omega) (isList_of hD).typeIs (⟨_, ht, rfl⟩) (by decide) Lc.st_tuple PySem.F.slot_list_le PySem.F.slot_tuple_ge_refl (by decide)
    (fun Q E q => Lc.d_list_le hD (fun _ _ _ _ k q => wpAny_typeOf ⟨_, k _ _ ht, rfl⟩ q) (fun _ _ _ _ _ q => wpAny_of_eq Lc.st_tuple q) q) (fun Q E q => Lc.d_tuple_ge ⟨_, ht, rfl⟩ (fun _ _ _ _ k q => wpAny_typeOf ⟨_, k _ _ hD, rfl⟩ q) (fun _ _ _ _ _ q => wpAny_of_eq Lc.st_list_tuple q) q) (by decide) fun h' tk' e ne => h e h' tk' ne)
theorem rfz_gt_tuple {t : Addr} {its : List Value} {nt : Nat} (ht : hp.get? t = some { cls := .type "tuple", data := .seq its.toArray nt }) (hD : hp.get? D = some (LO xs c)) (hh : A.handled = none) (hu : A.units < 900) (h : ∀ e h' tk', Heap.NewExc hp h' e "TypeError" → E (.ref e) ⟨h', gs, dr, tk', os⟩) : wpAny (model prog w) A (call (.builtin "_operator.gt") [.ref D, .ref t]) Q E ⟨hp, gs, dr, tk, os⟩ :=
  op_gt (list_refused .gt hh (by simp only [Around.in1, cLine]; omega) (isList_of hD).typeIs (⟨_, ht, rfl⟩) (by decide) Lc.st_tuple PySem.F.slot_list_gt PySem.F.slot_tuple_lt_refl (by decide)
    (fun Q E q => Lc.d_list_gt hD (fun _ _ _ _ k q => wpAny_typeOf ⟨_, k _ _ ht, rfl⟩ q) (fun _ _ _ _ _ q => wpAny_of_eq Lc.st_tuple q) q) (fun Q E q => Lc.d_tuple_lt ⟨_, ht, rfl⟩ (fun _ _ _ _ k q => wpAny_typeOf ⟨_, k _ _ hD, rfl⟩ q) (fun _ _ _ _ _ q => wpAny_of_eq Lc.st_list_tuple q) q) (by decide) fun h' tk' e ne => h e h' tk' ne)
theorem rfz_ge_tuple {t : Addr} {its : List Value} {nt : Nat} (ht : hp.get? t = some { cls := .type "tuple", data := .seq its.toArray nt }) (hD : hp.get? D = some (LO xs c)) (hh : A.handled = none) (hu : A.units < 900) (h : ∀ e h' tk', Heap.NewExc hp h' e "TypeError" → E (.ref e) ⟨h', gs, dr, tk', os⟩) : wpAny (model prog w) A (call (.builtin "_operator.ge") [.ref D, .ref t]) Q E ⟨hp, gs, dr, tk, os⟩ :=
  op_ge (list_refused .ge hh (by simp only [Around.in1, cLine]; omega) (isList_of hD).typeIs (⟨_, ht, rfl⟩) (by decide) Lc.st_tuple PySem.F.slot_list_ge PySem.F.slot_tuple_le_refl (by decide)
    (fun Q E q => Lc.d_list_ge hD (fun _ _ _ _ k q => wpAny_typeOf ⟨_, k _ _ ht, rfl⟩ q) (fun _ _ _ _ _ q => wpAny_of_eq Lc.st_tuple q) q) (fun Q E q => Lc.d_tuple_le ⟨_, ht, rfl⟩ (fun _ _ _ _ k q => wpAny_typeOf ⟨_, k _ _ hD, rfl⟩ q) (fun _ _ _ _ _ q => wpAny_of_eq Lc.st_list_tuple q) q) (by decide) fun h' tk' e ne => h e h' tk' ne)
theorem isi_int {k : Int} {u : Tok} (X : (KK w).In hp) (h : ∀ tk, Q (.bool false) ⟨hp, gs, dr, tk, os⟩) : wpAny (model prog w) A (call (.builtin "isinstance") [.int k u, .ref aC]) Q E ⟨hp, gs, dr, tk, os⟩ :=
  kia_one kitx_int X trivial (by kernel_rfl) (by intro q; cases q) h
theorem rfz_lt_int {k : Int} {u : Tok} (hD : hp.get? D = some (LO xs c)) (hh : A.handled = none) (hu : A.units < 900) (h : ∀ e h' tk', Heap.NewExc hp h' e "TypeError" → E (.ref e) ⟨h', gs, dr, tk', os⟩) : wpAny (model prog w) A (call (.builtin "_operator.lt") [.ref D, .int k u]) Q E ⟨hp, gs, dr, tk, os⟩ :=
  op_lt (list_refused .lt hh (by simp only [Around.in1, cLine]; omega) (isList_of hD).typeIs (typeIs_int _ k u) (by decide) Lc.st_int PySem.F.slot_list_lt PySem.F.slot_int_gt_refl (by decide)
    (fun Q E q => Lc.d_list_lt hD (fun _ _ _ _ _ q => wpAny_typeOf (T := "int") rfl q) (fun _ _ _ _ _ q => wpAny_of_eq Lc.st_int q) q) (fun Q E q => Lc.d_int_gt hD (fun _ q => by cases q) q) (by decide) fun h' tk' e ne => h e h' tk' ne)
theorem rfz_le_int {k : Int} {u : Tok} (hD : hp.get? D = some (LO xs c)) (hh : A.handled = none) (hu : A.units < 900) (h : ∀ e h' tk', Heap.NewExc hp h' e "TypeError" → E (.ref e) ⟨h', gs, dr, tk', os⟩) : wpAny (model prog w) A (call (.builtin "_operator.le") [.ref D, .int k u]) Q E ⟨hp, gs, dr, tk, os⟩ :=
  op_le (list_refused .le hh (by simp only [Around.in1, cLine]; omega) (isList_of hD).typeIs (typeIs_int _ k u) (by decide) Lc.st_int PySem.F.slot_list_le PySem.F.slot_int_ge_refl (by decide)
    (fun Q E q => Lc.d_list_le hD (fun _ _ _ _ _ q => wpAny_typeOf (T := "int") rfl q) (fun _ _ _ _ _ q => wpAny_of_eq Lc.st_int q) q) (fun Q E q => Lc.d_int_ge hD (fun _ q => by cases q) q) (by decide) fun h' tk' e ne => h e h' tk' ne)
theorem rfz_gt_int {k : Int} {u : Tok} (hD : hp.get? D = some (LO xs c)) (hh : A.handled = none) (hu : A.units < 900) (h : ∀ e h' tk', Heap.NewExc hp h' e "TypeError" → E (.ref e) ⟨h', gs, dr, tk', os⟩) : wpAny (model prog w) A (call (.builtin "_operator.gt") [.ref D, .int k u]) Q E ⟨hp, gs, dr, tk, os⟩ :=
  op_gt (list_refused .gt hh (by simp only [Around.in1, cLine]; omega) (isList_of hD).typeIs (typeIs_int _ k u) (by decide) Lc.st_int PySem.F.slot_list_gt PySem.F.slot_int_lt_refl (by decide)
    (fun Q E q => Lc.d_list_gt hD (fun _ _ _ _ _ q => wpAny_typeOf (T := "int") rfl q) (fun _ _ _ _ _ q => wpAny_of_eq Lc.st_int q) q) (fun Q E q => Lc.d_int_lt hD (fun _ q => by cases q) q) (by decide) fun h' tk' e ne => h e h' tk' ne)
theorem rfz_ge_int {k : Int} {u : Tok} (hD : hp.get? D = some (LO xs c)) (hh : A.handled = none) (hu : A.units < 900) (h : ∀ e h' tk', Heap.NewExc hp h' e "TypeError" → E (.ref e) ⟨h', gs, dr, tk', os⟩) : wpAny (model prog w) A (call (.builtin "_operator.ge") [.ref D, .int k u]) Q E ⟨hp, gs, dr, tk, os⟩ :=
  op_ge (list_refused .ge hh (by simp only [Around.in1, cLine]; omega) (isList_of hD).typeIs (typeIs_int _ k u) (by decide) Lc.st_int PySem.F.slot_list_ge PySem.F.slot_int_le_refl (by decide)
    (fun Q E q => Lc.d_list_ge hD (fun _ _ _ _ _ q => wpAny_typeOf (T := "int") rfl q) (fun _ _ _ _ _ q => wpAny_of_eq Lc.st_int q) q) (fun Q E q => Lc.d_int_le hD (fun _ q => by cases q) q) (by decide) fun h' tk' e ne => h e h' tk' ne)
theorem isi_str {k : Str} {u : Tok} (X : (KK w).In hp) (h : ∀ tk, Q (.bool false) ⟨hp, gs, dr, tk, os⟩) : wpAny (model prog w) A (call (.builtin "isinstance") [.str k u, .ref aC]) Q E ⟨hp, gs, dr, tk, os⟩ :=
  kia_one kitx_str X trivial (by kernel_rfl) (by intro q; cases q) h
theorem rfz_lt_str {k : Str} {u : Tok} (hD : hp.get? D = some (LO xs c)) (hh : A.handled = none) (hu : A.units < 900) (h : ∀ e h' tk', Heap.NewExc hp h' e "TypeError" → E (.ref e) ⟨h', gs, dr, tk', os⟩) : wpAny (model prog w) A (call (.builtin "_operator.lt") [.ref D, .str k u]) Q E ⟨hp, gs, dr, tk, os⟩ :=
  op_lt (list_refused .lt hh (by simp only [Around.in1, cLine]; omega) (isList_of hD).typeIs (typeIs_str _ k u) (by decide) Lc.st_str PySem.F.slot_list_lt PySem.F.slot_str_gt_refl (by decide)
    (fun Q E q => Lc.d_list_lt hD (fun _ _ _ _ _ q => wpAny_typeOf (T := "str") rfl q) (fun _ _ _ _ _ q => wpAny_of_eq Lc.st_str q) q) (fun Q E q => Lc.d_str_gt hD (fun _ q => by cases q) q) (by decide) fun h' tk' e ne => h e h' tk' ne)
theorem rfz_le_str {k : Str} {u : Tok} (hD : hp.get? D = some (LO xs c)) (hh : A.handled = none) (hu : A.units < 900) (h : ∀ e h' tk', Heap.NewExc hp h' e "TypeError" → E (.ref e) ⟨h', gs, dr, tk', os⟩) : wpAny (model prog w) A (call (.builtin "_operator.le") [.ref D, .str k u]) Q E ⟨hp, gs, dr, tk, os⟩ :=
  op_le (list_refused .le hh (by simp only [Around.in1, cLine]; omega) (isList_of hD).typeIs (typeIs_str _ k u) (by decide) Lc.st_str PySem.F.slot_list_le PySem.F.slot_str_ge_refl (by decide)
    (fun Q E q => Lc.d_list_le hD (fun _ _ _ _ _ q => wpAny_typeOf (T := "str") rfl q) (fun _ _ _ _ _ q => wpAny_of_eq Lc.st_str q) q) (fun Q E q => Lc.d_str_ge hD (fun _ q => by cases q) q) (by decide) fun h' tk' e ne => h e h' tk' ne)
theorem rfz_gt_str {k : Str} {u : Tok} (hD : hp.get? D = some (LO xs c)) (hh : A.handled = none) (hu : A.units < 900) (h : ∀ e h' tk', Heap.NewExc hp h' e "TypeError" → E (.ref e) ⟨h', gs, dr, tk', os⟩) : wpAny (model prog w) A (call (.builtin "_operator.gt") [.ref D, .str k u]) Q E ⟨hp, gs, dr, tk, os⟩ :=
  op_gt (list_refused .gt hh (by simp only [Around.in1, cLine]; omega) (isList_of hD).typeIs (typeIs_str _ k u) (by decide) Lc.st_str PySem.F.slot_list_gt PySem.F.slot_str_lt_refl (by decide)
    (fun Q E q => Lc.d_list_gt hD (fun _ _ _ _ _ q => wpAny_typeOf (T := "str") rfl q) (fun _ _ _ _ _ q => wpAny_of_eq Lc.st_str q) q) (fun Q E q => Lc.d_str_lt hD (fun _ q => by cases q) q) (by decide) fun h' tk' e ne => h e h' tk' ne)
theorem rfz_ge_str {k : Str} {u : Tok} (hD : hp.get? D = some (LO xs c)) (hh : A.handled = none) (hu : A.units < 900) (h : ∀ e h' tk', Heap.NewExc hp h' e "TypeError" → E (.ref e) ⟨h', gs, dr, tk', os⟩) : wpAny (model prog w) A (call (.builtin "_operator.ge") [.ref D, .str k u]) Q E ⟨hp, gs, dr, tk, os⟩ :=
  op_ge (list_refused .ge hh (by simp only [Around.in1, cLine]; omega) (isList_of hD).typeIs (typeIs_str _ k u) (by decide) Lc.st_str PySem.F.slot_list_ge PySem.F.slot_str_le_refl (by decide)
    (fun Q E q => Lc.d_list_ge hD (fun _ _ _ _ _ q => wpAny_typeOf (T := "str") rfl q) (fun _ _ _ _ _ q => wpAny_of_eq Lc.st_str q) q) (fun Q E q => Lc.d_str_le hD (fun _ q => by cases q) q) (by decide) fun h' tk' e ne => h e h' tk' ne)
theorem isi_NoneType  (X : (KK w).In hp) (h : ∀ tk, Q (.bool false) ⟨hp, gs, dr, tk, os⟩) : wpAny (model prog w) A (call (.builtin "isinstance") [.none, .ref aC]) Q E ⟨hp, gs, dr, tk, os⟩ :=
  kia_one kitx_none X trivial (by kernel_rfl) (by intro q; cases q) h
theorem rfz_lt_NoneType  (hD : hp.get? D = some (LO xs c)) (hh : A.handled = none) (hu : A.units < 900) (h : ∀ e h' tk', Heap.NewExc hp h' e "TypeError" → E (.ref e) ⟨h', gs, dr, tk', os⟩) : wpAny (model prog w) A (call (.builtin "_operator.lt") [.ref D, .none]) Q E ⟨hp, gs, dr, tk, os⟩ :=
  op_lt (list_refused .lt hh (by simp only [Around.in1, cLine]; omega) (isList_of hD).typeIs (rfl) (by decide) Lc.st_NoneType PySem.F.slot_list_lt PySem.F.slot_NoneType_gt_refl (by decide)
    (fun Q E q => Lc.d_list_lt hD (fun _ _ _ _ _ q => wpAny_typeOf (T := "NoneType") rfl q) (fun _ _ _ _ _ q => wpAny_of_eq Lc.st_NoneType q) q) (fun Q E q => Lc.d_NoneType_gt q) (by decide) fun h' tk' e ne => h e h' tk' ne)
theorem rfz_le_NoneType  (hD : hp.get? D = some (LO xs c)) (hh : A.handled = none) (hu : A.units < 900) (h : ∀ e h' tk', Heap.NewExc hp h' e "TypeError" → E (.ref e) ⟨h', gs, dr, tk', os⟩) : wpAny (model prog w) A (call (.builtin "_operator.le") [.ref D, .none]) Q E ⟨hp, gs, dr, tk, os⟩ :=
  op_le (list_refused .le hh (by simp only [Around.in1, cLine]; omega) (isList_of hD).typeIs (rfl) (by decide) Lc.st_NoneType PySem.F.slot_list_le PySem.F.slot_NoneType_ge_refl (by decide)
    (fun Q E q => Lc.d_list_le hD (fun _ _ _ _ _ q => wpAny_typeOf (T := "NoneType") rfl q) (fun _ _ _ _ _ q => wpAny_of_eq Lc.st_NoneType q) q) (fun Q E q => Lc.d_NoneType_ge q) (by decide) fun h' tk' e ne => h e h' tk' ne)
theorem rfz_gt_NoneType  (hD : hp.get? D = some (LO xs c)) (hh : A.handled = none) (hu : A.units < 900) (h : ∀ e h' tk', Heap.NewExc hp h' e "TypeError" → E (.ref e) ⟨h', gs, dr, tk', os⟩) : wpAny (model prog w) A (call (.builtin "_operator.gt") [.ref D, .none]) Q E ⟨hp, gs, dr, tk, os⟩ :=
  op_gt (list_refused .gt hh (by simp only [Around.in1, cLine]; omega) (isList_of hD).typeIs (rfl) (by decide) Lc.st_NoneType PySem.F.slot_list_gt PySem.F.slot_NoneType_lt_refl (by decide)
    (fun Q E q => Lc.d_list_gt hD (fun _ _ _ _ _ q => wpAny_typeOf (T := "NoneType") rfl q) (fun _ _ _ _ _ q => wpAny_of_eq Lc.st_NoneType q) q) (fun Q E q => Lc.d_NoneType_lt q) (by decide) fun h' tk' e ne => h e h' tk' ne)
theorem rfz_ge_NoneType  (hD : hp.get? D = some (LO xs c)) (hh : A.handled = none) (hu : A.units < 900) (h : ∀ e h' tk', Heap.NewExc hp h' e "TypeError" → E (.ref e) ⟨h', gs, dr, tk', os⟩) : wpAny (model prog w) A (call (.builtin "_operator.ge") [.ref D, .none]) Q E ⟨hp, gs, dr, tk, os⟩ :=
  op_ge (list_refused .ge hh (by simp only [Around.in1, cLine]; omega) (isList_of hD).typeIs (rfl) (by decide) Lc.st_NoneType PySem.F.slot_list_ge PySem.F.slot_NoneType_le_refl (by decide)
    (fun Q E q => Lc.d_list_ge hD (fun _ _ _ _ _ q => wpAny_typeOf (T := "NoneType") rfl q) (fun _ _ _ _ _ q => wpAny_of_eq Lc.st_NoneType q) q) (fun Q E q => Lc.d_NoneType_le q) (by decide) fun h' tk' e ne => h e h' tk' ne)
end
local macro_rules | `(tactic| walk_at "bo") => `(tactic| first
  | with_reducible refine BoolOp_or ?_
  | with_reducible refine BoolOp_and ?_
  | with_reducible refine BoolOp_one ?_
  | with_reducible refine x_str ?_
  | walk_at "e")
local macro_rules | `(tactic| walk_at "rb") => `(tactic| repeat walk_at "bo")
section
variable {prog : Program} {w : World} {A : Around} {E : Value → Shared → Prop} {hp : Heap} {gs : Array GenState} {dr : Drawn} {tk : Nat} {os : OsState} {mg mb : Str → Option Value} {x : Addr} {Q : Value → Shared → Prop}
set_option maxHeartbeats 2000000 in
theorem eq_str {k : Str} {u : Tok} {xs : List Value} (T : Tp (KK w) mg mb hp) (V : VecAt hp x xs) (hz : xs.length ≤ 1000) (hk : k.length ≤ 1000) (hroom : A.depth < 370) (hu : A.units < 900) (hh : A.handled = none)
    (h : ∀ h' tk', Ext hp h' → Q (.bool false) ⟨h', gs, dr, tk', os⟩) : wpAny (model prog w) A (call (.ref m_dunder_eq) [.ref x, .str k u]) Q E ⟨hp, gs, dr, tk, os⟩ := by
  obtain ⟨dx, root, tail, n, toff, t1, t2, t3, hx, hdx, hlen⟩ := V.len
  refine wpAny_call ?_
  refine call_fx [] (binds := [(Str.ofString "self", .ref x), (Str.ofString "other", .str k u)]) (by walk_at "room") (T.X _ _ (lk m_dunder_eq (by kernel_rfl))) (by with_unfolding_all rfl) T.nolimit (codeRec_of T.X (by kernel_rfl)) (BindsTo.of_eq (by with_unfolding_all rfl)) (locs (by with_unfolding_all rfl)) (fun _ q => nomatch q) List.nodup_nil ?_ (by decide +kernel)
  intro L h₁ tk F
  have F : Fx hp L h₁ _ [] := F
  walk_at "rb"
  refine wpAny_is_plain rfl ?_
  rw [show (Value.ref x == Value.str k u) = false from rfl]
  walk_at "rb"
  rw [if_neg (by decide)]
  walk_at "rb"
  refine has_str ?_
  intro h2 tk2 e2
  replace F := F.ext e2
  walk_at "rb"
  rw [if_pos rfl]
  walk_at "rb"
  refine len_str (by omega) ?_
  walk_at "rb"
  cases hb : n == (k.length : Int) with
  | true =>
    walk_at "rb"
    rw [if_pos rfl]
    walk_at "rb"
    refine cw_fn T (by kernel_rfl) ?_
    walk_at "rb"
    refine ⟨F.keep, ?_⟩
    refine cmp_plain (T.up F.keep) (V.up F.keep) (by omega) (by walk_at "room") hh (fun A Q E h' tk e q => isi_str (T.up (F.keep.trans e)).X q) fun A' E' h' tk' D c hu' hA e hD => ?_
    refine op_eq (list_unequal (by simp only [Around.deeper, Around.in1, cLine] at *; omega) (isList_of hD).typeIs (typeIs_str _ k u) (by decide) Lc.st_str PySem.F.slot_list_eq PySem.F.slot_str_eq_refl
      (fun Q E q => Lc.d_list_eq hD (fun _ _ _ _ _ q => wpAny_typeOf (T := "str") rfl q) (fun _ _ _ _ _ q => wpAny_of_eq Lc.st_str q) q) (fun Q E q => Lc.d_str_eq hD (fun _ q => by cases q) q) (wpAny_isSame_plain rfl ⟨rfl, rfl⟩) ?_)
    refine ⟨_, _, rfl, ?_⟩
    walk_at "rb"
    exact h _ _ (F.keep.trans e)
  | false =>
    walk_at "rb"
    rw [if_neg (by decide)]
    walk_at "rb"
    exact h _ _ F.keep
end
local macro_rules | `(tactic| walk_at "bo") => `(tactic| first
  | with_reducible refine BoolOp_or ?_
  | with_reducible refine BoolOp_and ?_
  | with_reducible refine BoolOp_one ?_
  | with_reducible refine x_str ?_
  | walk_at "e")
local macro_rules | `(tactic| walk_at "rb") => `(tactic| repeat walk_at "bo")
section
variable {prog : Program} {w : World} {A : Around} {E : Value → Shared → Prop} {hp : Heap} {gs : Array GenState} {dr : Drawn} {tk : Nat} {os : OsState} {mg mb : Str → Option Value} {x : Addr} {Q : Value → Shared → Prop}
set_option maxHeartbeats 2000000 in
theorem eq_tuple {t0 : Addr} {its : List Value} {nt : Nat} (ht : hp.get? t0 = some { cls := .type "tuple", data := .seq its.toArray nt }) {xs : List Value} (T : Tp (KK w) mg mb hp) (V : VecAt hp x xs) (hz : xs.length ≤ 1000) (hk : its.length ≤ 1000) (hroom : A.depth < 370) (hu : A.units < 900) (hh : A.handled = none)
    (h : ∀ h' tk', Ext hp h' → Q (.bool false) ⟨h', gs, dr, tk', os⟩) : wpAny (model prog w) A (call (.ref m_dunder_eq) [.ref x, .ref t0]) Q E ⟨hp, gs, dr, tk, os⟩ := by
  obtain ⟨dx, root, tail, n, toff, t1, t2, t3, hx, hdx, hlen⟩ := V.len
  have hq : x ≠ t0 := fun q => by
    rw [q, ht] at hx
    have := Option.some.inj hx
    injection this with hc _ _ _
    cases hc
  refine wpAny_call ?_
  refine call_fx [] (binds := [(Str.ofString "self", .ref x), (Str.ofString "other", .ref t0)]) (by walk_at "room") (T.X _ _ (lk m_dunder_eq (by kernel_rfl))) (by with_unfolding_all rfl) T.nolimit (codeRec_of T.X (by kernel_rfl)) (BindsTo.of_eq (by with_unfolding_all rfl)) (locs (by with_unfolding_all rfl)) (fun _ q => nomatch q) List.nodup_nil ?_ (by decide +kernel)
  intro L h₁ tk F
  have F : Fx hp L h₁ _ [] := F
  walk_at "rb"
  refine wpAny_is_ref_other hq (F.keep _ _ hx) (F.keep _ _ ht) (fun q => by cases q) ?_
  walk_at "rb"
  rw [if_neg (by decide)]
  walk_at "rb"
  refine has_tuple (F.keep _ _ ht) ?_
  intro h2 tk2 e2
  replace F := F.ext e2
  walk_at "rb"
  rw [if_pos rfl]
  walk_at "rb"
  refine Calls.call_function_entry kind_len plain_len entry_len (args_len1 _) (len_body_tuple (items := its.toArray) ⟨_, F.keep _ _ ht, rfl, _, rfl⟩ (by rw [List.size_toArray]; omega) ?_)
  walk_at "rb"
  cases hb : n == (its.toArray.size : Int) with
  | true =>
    walk_at "rb"
    rw [if_pos rfl]
    walk_at "rb"
    refine cw_fn T (by kernel_rfl) ?_
    walk_at "rb"
    refine ⟨F.keep, ?_⟩
    refine cmp_plain (T.up F.keep) (V.up F.keep) (by omega) (by walk_at "room") hh (fun A Q E h' tk e q => isi_tuple (e _ _ (F.keep _ _ ht)) (T.up (F.keep.trans e)).X q) fun A' E' h' tk' D c hu' hA e hD => ?_
    refine op_eq (list_unequal (by simp only [Around.deeper, Around.in1, cLine] at *; omega) (isList_of hD).typeIs ⟨_, e _ _ (F.keep _ _ ht), rfl⟩ (by decide) Lc.st_tuple PySem.F.slot_list_eq PySem.F.slot_tuple_eq_refl
      (fun Q E q => Lc.d_list_eq hD (fun _ _ _ _ k q => wpAny_typeOf ⟨_, k _ _ (e _ _ (F.keep _ _ ht)), rfl⟩ q) (fun _ _ _ _ _ q => wpAny_of_eq Lc.st_tuple q) q) (fun Q E q => Lc.d_tuple_eq ⟨_, e _ _ (F.keep _ _ ht), rfl⟩ (fun _ _ _ _ k q => wpAny_typeOf ⟨_, k _ _ hD, rfl⟩ q) (fun _ _ _ _ _ q => wpAny_of_eq Lc.st_list_tuple q) q) (wpAny_isSame_ref_other (fun q => by rw [q] at hD; have h1 := Option.some.inj (hD.symm.trans (e _ _ (F.keep _ _ ht))); have h2 := congrArg Obj.cls h1; injection h2 with h2; exact absurd h2 (by decide)) hD (e _ _ (F.keep _ _ ht)) (fun q => by injection q with q; exact absurd q (by decide)) ⟨rfl, rfl⟩) ?_)
    refine ⟨_, _, rfl, ?_⟩
    walk_at "rb"
    exact h _ _ (F.keep.trans e)
  | false =>
    walk_at "rb"
    rw [if_neg (by decide)]
    walk_at "rb"
    exact h _ _ F.keep
end
section
variable {prog : Program} {w : World} {A : Around} {E : Value → Shared → Prop} {hp : Heap} {gs : Array GenState} {dr : Drawn} {tk : Nat} {os : OsState} {mg mb : Str → Option Value} {x y dx f : Addr} {sl : List (Option Value)} {Q : Value → Shared → Prop}
set_option maxHeartbeats 2000000 in
theorem ne_str {k : Str} {u : Tok} {xs : List Value} (T : Tp (KK w) mg mb hp) (V : VecAt hp x xs) (hz : xs.length ≤ 1000) (hk : k.length ≤ 1000) (hroom : A.depth < 360) (hu : A.units < 800) (hh : A.handled = none)
    (h : ∀ h' tk', Ext hp h' → Q (.bool true) ⟨h', gs, dr, tk', os⟩) : wpAny (model prog w) A (call (.ref m_dunder_ne) [.ref x, .str k u]) Q E ⟨hp, gs, dr, tk, os⟩ := by
  obtain ⟨dx, root, tail, n, toff, t1, t2, t3, hx, hdx, hlen⟩ := V.len
  refine wpAny_call ?_
  refine call_fx [] (binds := [(Str.ofString "self", .ref x), (Str.ofString "other", .str k u)]) (by walk_at "room") (T.X _ _ (lk m_dunder_ne (by kernel_rfl))) (by with_unfolding_all rfl) T.nolimit (codeRec_of T.X (by kernel_rfl)) (BindsTo.of_eq (by with_unfolding_all rfl)) (locs (by with_unfolding_all rfl)) (fun _ q => nomatch q) List.nodup_nil ?_ (by decide +kernel)
  intro L h₁ tk F
  have F : Fx hp L h₁ _ [] := F
  walk_at "r"
  refine gm_eq (T.up F.keep).X (F.keep _ _ hx) (F.keep _ _ hdx) ?_
  refine cw_fn T (by kernel_rfl) ?_
  walk_at "r"
  refine ⟨F.keep, ?_⟩
  refine eq_str (T.up F.keep) (V.up F.keep) hz hk (by walk_at "room") (by simp only [Around.deeper]; omega) hh ?_
  intro h2 tk2 e2
  replace F := F.ext e2
  walk_at "r"
  refine no_bool ?_
  walk_at "r"
  exact h _ _ F.keep
set_option maxHeartbeats 2000000 in
theorem ne_tuple {t0 : Addr} {its : List Value} {nt : Nat} (ht : hp.get? t0 = some { cls := .type "tuple", data := .seq its.toArray nt }) {xs : List Value} (T : Tp (KK w) mg mb hp) (V : VecAt hp x xs) (hz : xs.length ≤ 1000) (hk : its.length ≤ 1000) (hroom : A.depth < 360) (hu : A.units < 800) (hh : A.handled = none)
    (h : ∀ h' tk', Ext hp h' → Q (.bool true) ⟨h', gs, dr, tk', os⟩) : wpAny (model prog w) A (call (.ref m_dunder_ne) [.ref x, .ref t0]) Q E ⟨hp, gs, dr, tk, os⟩ := by
  obtain ⟨dx, root, tail, n, toff, t1, t2, t3, hx, hdx, hlen⟩ := V.len
  refine wpAny_call ?_
  refine call_fx [] (binds := [(Str.ofString "self", .ref x), (Str.ofString "other", .ref t0)]) (by walk_at "room") (T.X _ _ (lk m_dunder_ne (by kernel_rfl))) (by with_unfolding_all rfl) T.nolimit (codeRec_of T.X (by kernel_rfl)) (BindsTo.of_eq (by with_unfolding_all rfl)) (locs (by with_unfolding_all rfl)) (fun _ q => nomatch q) List.nodup_nil ?_ (by decide +kernel)
  intro L h₁ tk F
  have F : Fx hp L h₁ _ [] := F
  walk_at "r"
  refine gm_eq (T.up F.keep).X (F.keep _ _ hx) (F.keep _ _ hdx) ?_
  refine cw_fn T (by kernel_rfl) ?_
  walk_at "r"
  refine ⟨F.keep, ?_⟩
  refine eq_tuple (F.keep _ _ ht) (T.up F.keep) (V.up F.keep) hz hk (by walk_at "room") (by simp only [Around.deeper]; omega) hh ?_
  intro h2 tk2 e2
  replace F := F.ext e2
  walk_at "r"
  refine no_bool ?_
  walk_at "r"
  exact h _ _ F.keep
end
section
variable {prog : Program} {w : World} {A : Around} {E : Value → Shared → Prop} {hp : Heap} {gs : Array GenState} {dr : Drawn} {tk : Nat} {os : OsState} {mg mb : Str → Option Value} {x : Addr} {Q : Value → Shared → Prop} {xs : List Value}
theorem sgo_v_tuple_eq {t0 : Addr} {its : List Value} {nt : Nat} (ht : hp.get? t0 = some { cls := .type "tuple", data := .seq its.toArray nt }) (T : Tp (KK w) mg mb hp) (V : VecAt hp x xs) (hz : xs.length ≤ 1000) (hk : its.length ≤ 1000) (hroom : A.depth < 350) (hu : A.units < 700) (hh : A.handled = none)
    (h : ∀ h' tk', Ext hp h' → Q (.bool false) ⟨h', gs, dr, tk', os⟩) : wpAny (model prog w) A (compareOp .Eq (.ref x) (.ref t0)) Q E ⟨hp, gs, dr, tk, os⟩ := by
  obtain ⟨dx, _, _, _, _, _, _, _, hx, hdx, _⟩ := V.len
  show wpAny _ _ (richCompare .Eq _ _) _ _ _
  exact own_left T.X hx hdx (by simp only [cLine]; omega) (fun _ _ _ _ k q => wpAny_typeOf ⟨_, k _ _ ht, rfl⟩ q) nf_tuple fi_eq ty_eq (eq_tuple ht T V hz hk (by omega) (by omega) hh fun h' tk' e => h _ _ e)
theorem sgo_tuple_v_eq {t0 : Addr} {its : List Value} {nt : Nat} (ht : hp.get? t0 = some { cls := .type "tuple", data := .seq its.toArray nt }) (T : Tp (KK w) mg mb hp) (V : VecAt hp x xs) (hz : xs.length ≤ 1000) (hk : its.length ≤ 1000) (hroom : A.depth < 350) (hu : A.units < 700) (hh : A.handled = none)
    (h : ∀ h' tk', Ext hp h' → Q (.bool false) ⟨h', gs, dr, tk', os⟩) : wpAny (model prog w) A (compareOp .Eq (.ref t0) (.ref x)) Q E ⟨hp, gs, dr, tk, os⟩ := by
  obtain ⟨dx, _, _, _, _, _, _, _, hx, hdx, _⟩ := V.len
  show wpAny _ _ (richCompare .Eq _ _) _ _ _
  exact own_right T.X hx hdx (by simp only [cLine]; omega) ⟨_, ht, rfl⟩ sb_tuple PySem.F.slot_tuple_eq (fun Q E q => Lc.d_tuple_eq ⟨_, ht, rfl⟩ (inst_of hx hdx).type (looks_subIn T.X sb_tuple) q) fi_eq ty_eq (eq_tuple ht T V hz hk (by omega) (by omega) hh fun h' tk' e => h _ _ e)
theorem sgo_v_tuple_ne {t0 : Addr} {its : List Value} {nt : Nat} (ht : hp.get? t0 = some { cls := .type "tuple", data := .seq its.toArray nt }) (T : Tp (KK w) mg mb hp) (V : VecAt hp x xs) (hz : xs.length ≤ 1000) (hk : its.length ≤ 1000) (hroom : A.depth < 350) (hu : A.units < 700) (hh : A.handled = none)
    (h : ∀ h' tk', Ext hp h' → Q (.bool true) ⟨h', gs, dr, tk', os⟩) : wpAny (model prog w) A (compareOp .NotEq (.ref x) (.ref t0)) Q E ⟨hp, gs, dr, tk, os⟩ := by
  obtain ⟨dx, _, _, _, _, _, _, _, hx, hdx, _⟩ := V.len
  show wpAny _ _ (richCompare .NotEq _ _) _ _ _
  exact own_left T.X hx hdx (by simp only [cLine]; omega) (fun _ _ _ _ k q => wpAny_typeOf ⟨_, k _ _ ht, rfl⟩ q) nf_tuple fi_ne ty_ne (ne_tuple ht T V hz hk (by omega) (by omega) hh fun h' tk' e => h _ _ e)
theorem sgo_tuple_v_ne {t0 : Addr} {its : List Value} {nt : Nat} (ht : hp.get? t0 = some { cls := .type "tuple", data := .seq its.toArray nt }) (T : Tp (KK w) mg mb hp) (V : VecAt hp x xs) (hz : xs.length ≤ 1000) (hk : its.length ≤ 1000) (hroom : A.depth < 350) (hu : A.units < 700) (hh : A.handled = none)
    (h : ∀ h' tk', Ext hp h' → Q (.bool true) ⟨h', gs, dr, tk', os⟩) : wpAny (model prog w) A (compareOp .NotEq (.ref t0) (.ref x)) Q E ⟨hp, gs, dr, tk, os⟩ := by
  obtain ⟨dx, _, _, _, _, _, _, _, hx, hdx, _⟩ := V.len
  show wpAny _ _ (richCompare .NotEq _ _) _ _ _
  exact own_right T.X hx hdx (by simp only [cLine]; omega) ⟨_, ht, rfl⟩ sb_tuple PySem.F.slot_tuple_ne (fun Q E q => Lc.d_tuple_ne ⟨_, ht, rfl⟩ (inst_of hx hdx).type (looks_subIn T.X sb_tuple) q) fi_ne ty_ne (ne_tuple ht T V hz hk (by omega) (by omega) hh fun h' tk' e => h _ _ e)
theorem sgo_v_str_eq {k : Str} {u : Tok} (T : Tp (KK w) mg mb hp) (V : VecAt hp x xs) (hz : xs.length ≤ 1000) (hk : k.length ≤ 1000) (hroom : A.depth < 350) (hu : A.units < 700) (hh : A.handled = none)
    (h : ∀ h' tk', Ext hp h' → Q (.bool false) ⟨h', gs, dr, tk', os⟩) : wpAny (model prog w) A (compareOp .Eq (.ref x) (.str k u)) Q E ⟨hp, gs, dr, tk, os⟩ := by
  obtain ⟨dx, _, _, _, _, _, _, _, hx, hdx, _⟩ := V.len
  show wpAny _ _ (richCompare .Eq _ _) _ _ _
  exact own_left T.X hx hdx (by simp only [cLine]; omega) (fun _ _ _ _ _ q => wpAny_typeOf (T := "str") rfl q) nf_str fi_eq ty_eq (eq_str T V hz hk (by omega) (by omega) hh fun h' tk' e => h _ _ e)
theorem sgo_str_v_eq {k : Str} {u : Tok} (T : Tp (KK w) mg mb hp) (V : VecAt hp x xs) (hz : xs.length ≤ 1000) (hk : k.length ≤ 1000) (hroom : A.depth < 350) (hu : A.units < 700) (hh : A.handled = none)
    (h : ∀ h' tk', Ext hp h' → Q (.bool false) ⟨h', gs, dr, tk', os⟩) : wpAny (model prog w) A (compareOp .Eq (.str k u) (.ref x)) Q E ⟨hp, gs, dr, tk, os⟩ := by
  obtain ⟨dx, _, _, _, _, _, _, _, hx, hdx, _⟩ := V.len
  show wpAny _ _ (richCompare .Eq _ _) _ _ _
  exact own_right T.X hx hdx (by simp only [cLine]; omega) (typeIs_str _ k u) sb_str PySem.F.slot_str_eq (fun Q E q => Lc.d_str_eq hx (fun _ q => by cases q) q) fi_eq ty_eq (eq_str T V hz hk (by omega) (by omega) hh fun h' tk' e => h _ _ e)
theorem sgo_v_str_ne {k : Str} {u : Tok} (T : Tp (KK w) mg mb hp) (V : VecAt hp x xs) (hz : xs.length ≤ 1000) (hk : k.length ≤ 1000) (hroom : A.depth < 350) (hu : A.units < 700) (hh : A.handled = none)
    (h : ∀ h' tk', Ext hp h' → Q (.bool true) ⟨h', gs, dr, tk', os⟩) : wpAny (model prog w) A (compareOp .NotEq (.ref x) (.str k u)) Q E ⟨hp, gs, dr, tk, os⟩ := by
  obtain ⟨dx, _, _, _, _, _, _, _, hx, hdx, _⟩ := V.len
  show wpAny _ _ (richCompare .NotEq _ _) _ _ _
  exact own_left T.X hx hdx (by simp only [cLine]; omega) (fun _ _ _ _ _ q => wpAny_typeOf (T := "str") rfl q) nf_str fi_ne ty_ne (ne_str T V hz hk (by omega) (by omega) hh fun h' tk' e => h _ _ e)
theorem sgo_str_v_ne {k : Str} {u : Tok} (T : Tp (KK w) mg mb hp) (V : VecAt hp x xs) (hz : xs.length ≤ 1000) (hk : k.length ≤ 1000) (hroom : A.depth < 350) (hu : A.units < 700) (hh : A.handled = none)
    (h : ∀ h' tk', Ext hp h' → Q (.bool true) ⟨h', gs, dr, tk', os⟩) : wpAny (model prog w) A (compareOp .NotEq (.str k u) (.ref x)) Q E ⟨hp, gs, dr, tk, os⟩ := by
  obtain ⟨dx, _, _, _, _, _, _, _, hx, hdx, _⟩ := V.len
  show wpAny _ _ (richCompare .NotEq _ _) _ _ _
  exact own_right T.X hx hdx (by simp only [cLine]; omega) (typeIs_str _ k u) sb_str PySem.F.slot_str_ne (fun Q E q => Lc.d_str_ne hx (fun _ q => by cases q) q) fi_ne ty_ne (ne_str T V hz hk (by omega) (by omega) hh fun h' tk' e => h _ _ e)
end
local macro_rules | `(tactic| walk_at "bo") => `(tactic| first
  | with_reducible refine BoolOp_or ?_
  | with_reducible refine BoolOp_and ?_
  | with_reducible refine BoolOp_one ?_
  | with_reducible refine x_str ?_
  | walk_at "e")
local macro_rules | `(tactic| walk_at "rb") => `(tactic| repeat walk_at "bo")
section
variable {prog : Program} {w : World} {A : Around} {E : Value → Shared → Prop} {hp : Heap} {gs : Array GenState} {dr : Drawn} {tk : Nat} {os : OsState} {mg mb : Str → Option Value} {x : Addr} {Q : Value → Shared → Prop} {xs : List Value}
set_option maxHeartbeats 2000000 in
theorem eqv_int {k : Int} {u : Tok} (T : Tp (KK w) mg mb hp) (V : VecAt hp x xs) (hz : xs.length ≤ 1000) (hroom : A.depth < 370) (hu : A.units < 900) (hh : A.handled = none)
    (h : ∀ h' tk', Ext hp h' → Q (.bool false) ⟨h', gs, dr, tk', os⟩) : wpAny (model prog w) A (call (.ref m_dunder_eq) [.ref x, .int k u]) Q E ⟨hp, gs, dr, tk, os⟩ := by
  obtain ⟨dx, root, tail, n, toff, t1, t2, t3, hx, hdx, hlen⟩ := V.len
  refine wpAny_call ?_
  refine call_fx [] (binds := [(Str.ofString "self", .ref x), (Str.ofString "other", .int k u)]) (by walk_at "room") (T.X _ _ (lk m_dunder_eq (by kernel_rfl))) (by with_unfolding_all rfl) T.nolimit (codeRec_of T.X (by kernel_rfl)) (BindsTo.of_eq (by with_unfolding_all rfl)) (locs (by with_unfolding_all rfl)) (fun _ q => nomatch q) List.nodup_nil ?_ (by decide +kernel)
  intro L h₁ tk F
  have F : Fx hp L h₁ _ [] := F
  walk_at "rb"
  refine wpAny_is_plain rfl ?_
  rw [show (Value.ref x == Value.int k u) = false from rfl]
  walk_at "rb"
  rw [if_neg (by decide)]
  walk_at "rb"
  refine has_int (by first | exact hh | walk_at "room") ?_
  intro h2 tk2 e2
  replace F := F.ext e2
  walk_at "rb"
  rw [if_neg (by decide)]
  walk_at "rb"
  exact h _ _ F.keep
set_option maxHeartbeats 2000000 in
theorem nev_int {k : Int} {u : Tok} (T : Tp (KK w) mg mb hp) (V : VecAt hp x xs) (hz : xs.length ≤ 1000) (hroom : A.depth < 360) (hu : A.units < 800) (hh : A.handled = none)
    (h : ∀ h' tk', Ext hp h' → Q (.bool true) ⟨h', gs, dr, tk', os⟩) : wpAny (model prog w) A (call (.ref m_dunder_ne) [.ref x, .int k u]) Q E ⟨hp, gs, dr, tk, os⟩ := by
  obtain ⟨dx, root, tail, n, toff, t1, t2, t3, hx, hdx, hlen⟩ := V.len
  refine wpAny_call ?_
  refine call_fx [] (binds := [(Str.ofString "self", .ref x), (Str.ofString "other", .int k u)]) (by walk_at "room") (T.X _ _ (lk m_dunder_ne (by kernel_rfl))) (by with_unfolding_all rfl) T.nolimit (codeRec_of T.X (by kernel_rfl)) (BindsTo.of_eq (by with_unfolding_all rfl)) (locs (by with_unfolding_all rfl)) (fun _ q => nomatch q) List.nodup_nil ?_ (by decide +kernel)
  intro L h₁ tk F
  have F : Fx hp L h₁ _ [] := F
  walk_at "r"
  refine gm_eq (T.up F.keep).X (F.keep _ _ hx) (F.keep _ _ hdx) ?_
  refine cw_fn T (by kernel_rfl) ?_
  walk_at "r"
  refine ⟨F.keep, ?_⟩
  refine eqv_int (T.up F.keep) (V.up F.keep) hz (by walk_at "room") (by simp only [Around.deeper]; omega) hh ?_
  intro h2 tk2 e2
  replace F := F.ext e2
  walk_at "r"
  refine no_bool ?_
  walk_at "r"
  exact h _ _ F.keep
theorem sgo_v_int_eq {k : Int} {u : Tok} (T : Tp (KK w) mg mb hp) (V : VecAt hp x xs) (hz : xs.length ≤ 1000) (hroom : A.depth < 350) (hu : A.units < 700) (hh : A.handled = none)
    (h : ∀ h' tk', Ext hp h' → Q (.bool false) ⟨h', gs, dr, tk', os⟩) : wpAny (model prog w) A (compareOp .Eq (.ref x) (.int k u)) Q E ⟨hp, gs, dr, tk, os⟩ := by
  obtain ⟨dx, _, _, _, _, _, _, _, hx, hdx, _⟩ := V.len
  show wpAny _ _ (richCompare .Eq _ _) _ _ _
  exact own_left T.X hx hdx (by simp only [cLine]; omega) (fun _ _ _ _ _ q => wpAny_typeOf (T := "int") rfl q) nf_int fi_eq ty_eq (eqv_int T V hz (by omega) (by omega) hh fun h' tk' e => h _ _ e)
theorem sgo_int_v_eq {k : Int} {u : Tok} (T : Tp (KK w) mg mb hp) (V : VecAt hp x xs) (hz : xs.length ≤ 1000) (hroom : A.depth < 350) (hu : A.units < 700) (hh : A.handled = none)
    (h : ∀ h' tk', Ext hp h' → Q (.bool false) ⟨h', gs, dr, tk', os⟩) : wpAny (model prog w) A (compareOp .Eq (.int k u) (.ref x)) Q E ⟨hp, gs, dr, tk, os⟩ := by
  obtain ⟨dx, _, _, _, _, _, _, _, hx, hdx, _⟩ := V.len
  show wpAny _ _ (richCompare .Eq _ _) _ _ _
  exact own_right T.X hx hdx (by simp only [cLine]; omega) (typeIs_int _ k u) sb_int PySem.F.slot_int_eq (fun Q E q => Lc.d_int_eq hx (fun _ q => by cases q) q) fi_eq ty_eq (eqv_int T V hz (by omega) (by omega) hh fun h' tk' e => h _ _ e)
theorem sgo_v_int_ne {k : Int} {u : Tok} (T : Tp (KK w) mg mb hp) (V : VecAt hp x xs) (hz : xs.length ≤ 1000) (hroom : A.depth < 350) (hu : A.units < 700) (hh : A.handled = none)
    (h : ∀ h' tk', Ext hp h' → Q (.bool true) ⟨h', gs, dr, tk', os⟩) : wpAny (model prog w) A (compareOp .NotEq (.ref x) (.int k u)) Q E ⟨hp, gs, dr, tk, os⟩ := by
  obtain ⟨dx, _, _, _, _, _, _, _, hx, hdx, _⟩ := V.len
  show wpAny _ _ (richCompare .NotEq _ _) _ _ _
  exact own_left T.X hx hdx (by simp only [cLine]; omega) (fun _ _ _ _ _ q => wpAny_typeOf (T := "int") rfl q) nf_int fi_ne ty_ne (nev_int T V hz (by omega) (by omega) hh fun h' tk' e => h _ _ e)
theorem sgo_int_v_ne {k : Int} {u : Tok} (T : Tp (KK w) mg mb hp) (V : VecAt hp x xs) (hz : xs.length ≤ 1000) (hroom : A.depth < 350) (hu : A.units < 700) (hh : A.handled = none)
    (h : ∀ h' tk', Ext hp h' → Q (.bool true) ⟨h', gs, dr, tk', os⟩) : wpAny (model prog w) A (compareOp .NotEq (.int k u) (.ref x)) Q E ⟨hp, gs, dr, tk, os⟩ := by
  obtain ⟨dx, _, _, _, _, _, _, _, hx, hdx, _⟩ := V.len
  show wpAny _ _ (richCompare .NotEq _ _) _ _ _
  exact own_right T.X hx hdx (by simp only [cLine]; omega) (typeIs_int _ k u) sb_int PySem.F.slot_int_ne (fun Q E q => Lc.d_int_ne hx (fun _ q => by cases q) q) fi_ne ty_ne (nev_int T V hz (by omega) (by omega) hh fun h' tk' e => h _ _ e)
set_option maxHeartbeats 2000000 in
theorem eqv_none  (T : Tp (KK w) mg mb hp) (V : VecAt hp x xs) (hz : xs.length ≤ 1000) (hroom : A.depth < 370) (hu : A.units < 900) (hh : A.handled = none)
    (h : ∀ h' tk', Ext hp h' → Q (.bool false) ⟨h', gs, dr, tk', os⟩) : wpAny (model prog w) A (call (.ref m_dunder_eq) [.ref x, .none]) Q E ⟨hp, gs, dr, tk, os⟩ := by
  obtain ⟨dx, root, tail, n, toff, t1, t2, t3, hx, hdx, hlen⟩ := V.len
  refine wpAny_call ?_
  refine call_fx [] (binds := [(Str.ofString "self", .ref x), (Str.ofString "other", .none)]) (by walk_at "room") (T.X _ _ (lk m_dunder_eq (by kernel_rfl))) (by with_unfolding_all rfl) T.nolimit (codeRec_of T.X (by kernel_rfl)) (BindsTo.of_eq (by with_unfolding_all rfl)) (locs (by with_unfolding_all rfl)) (fun _ q => nomatch q) List.nodup_nil ?_ (by decide +kernel)
  intro L h₁ tk F
  have F : Fx hp L h₁ _ [] := F
  walk_at "rb"
  rw [if_neg (by decide)]
  walk_at "rb"
  refine has_none (by first | exact hh | walk_at "room") ?_
  intro h2 tk2 e2
  replace F := F.ext e2
  walk_at "rb"
  rw [if_neg (by decide)]
  walk_at "rb"
  exact h _ _ F.keep
set_option maxHeartbeats 2000000 in
theorem nev_none  (T : Tp (KK w) mg mb hp) (V : VecAt hp x xs) (hz : xs.length ≤ 1000) (hroom : A.depth < 360) (hu : A.units < 800) (hh : A.handled = none)
    (h : ∀ h' tk', Ext hp h' → Q (.bool true) ⟨h', gs, dr, tk', os⟩) : wpAny (model prog w) A (call (.ref m_dunder_ne) [.ref x, .none]) Q E ⟨hp, gs, dr, tk, os⟩ := by
  obtain ⟨dx, root, tail, n, toff, t1, t2, t3, hx, hdx, hlen⟩ := V.len
  refine wpAny_call ?_
  refine call_fx [] (binds := [(Str.ofString "self", .ref x), (Str.ofString "other", .none)]) (by walk_at "room") (T.X _ _ (lk m_dunder_ne (by kernel_rfl))) (by with_unfolding_all rfl) T.nolimit (codeRec_of T.X (by kernel_rfl)) (BindsTo.of_eq (by with_unfolding_all rfl)) (locs (by with_unfolding_all rfl)) (fun _ q => nomatch q) List.nodup_nil ?_ (by decide +kernel)
  intro L h₁ tk F
  have F : Fx hp L h₁ _ [] := F
  walk_at "r"
  refine gm_eq (T.up F.keep).X (F.keep _ _ hx) (F.keep _ _ hdx) ?_
  refine cw_fn T (by kernel_rfl) ?_
  walk_at "r"
  refine ⟨F.keep, ?_⟩
  refine eqv_none (T.up F.keep) (V.up F.keep) hz (by walk_at "room") (by simp only [Around.deeper]; omega) hh ?_
  intro h2 tk2 e2
  replace F := F.ext e2
  walk_at "r"
  refine no_bool ?_
  walk_at "r"
  exact h _ _ F.keep
theorem sgo_v_none_eq  (T : Tp (KK w) mg mb hp) (V : VecAt hp x xs) (hz : xs.length ≤ 1000) (hroom : A.depth < 350) (hu : A.units < 700) (hh : A.handled = none)
    (h : ∀ h' tk', Ext hp h' → Q (.bool false) ⟨h', gs, dr, tk', os⟩) : wpAny (model prog w) A (compareOp .Eq (.ref x) (.none)) Q E ⟨hp, gs, dr, tk, os⟩ := by
  obtain ⟨dx, _, _, _, _, _, _, _, hx, hdx, _⟩ := V.len
  show wpAny _ _ (richCompare .Eq _ _) _ _ _
  exact own_left T.X hx hdx (by simp only [cLine]; omega) (fun _ _ _ _ _ q => wpAny_typeOf (T := "NoneType") rfl q) nf_none fi_eq ty_eq (eqv_none T V hz (by omega) (by omega) hh fun h' tk' e => h _ _ e)
theorem sgo_none_v_eq  (T : Tp (KK w) mg mb hp) (V : VecAt hp x xs) (hz : xs.length ≤ 1000) (hroom : A.depth < 350) (hu : A.units < 700) (hh : A.handled = none)
    (h : ∀ h' tk', Ext hp h' → Q (.bool false) ⟨h', gs, dr, tk', os⟩) : wpAny (model prog w) A (compareOp .Eq (.none) (.ref x)) Q E ⟨hp, gs, dr, tk, os⟩ := by
  obtain ⟨dx, _, _, _, _, _, _, _, hx, hdx, _⟩ := V.len
  show wpAny _ _ (richCompare .Eq _ _) _ _ _
  exact own_right T.X hx hdx (by simp only [cLine]; omega) rfl sb_none PySem.F.slot_NoneType_eq (fun Q E q => Lc.d_NoneType_eq q) fi_eq ty_eq (eqv_none T V hz (by omega) (by omega) hh fun h' tk' e => h _ _ e)
theorem sgo_v_none_ne  (T : Tp (KK w) mg mb hp) (V : VecAt hp x xs) (hz : xs.length ≤ 1000) (hroom : A.depth < 350) (hu : A.units < 700) (hh : A.handled = none)
    (h : ∀ h' tk', Ext hp h' → Q (.bool true) ⟨h', gs, dr, tk', os⟩) : wpAny (model prog w) A (compareOp .NotEq (.ref x) (.none)) Q E ⟨hp, gs, dr, tk, os⟩ := by
  obtain ⟨dx, _, _, _, _, _, _, _, hx, hdx, _⟩ := V.len
  show wpAny _ _ (richCompare .NotEq _ _) _ _ _
  exact own_left T.X hx hdx (by simp only [cLine]; omega) (fun _ _ _ _ _ q => wpAny_typeOf (T := "NoneType") rfl q) nf_none fi_ne ty_ne (nev_none T V hz (by omega) (by omega) hh fun h' tk' e => h _ _ e)
theorem sgo_none_v_ne  (T : Tp (KK w) mg mb hp) (V : VecAt hp x xs) (hz : xs.length ≤ 1000) (hroom : A.depth < 350) (hu : A.units < 700) (hh : A.handled = none)
    (h : ∀ h' tk', Ext hp h' → Q (.bool true) ⟨h', gs, dr, tk', os⟩) : wpAny (model prog w) A (compareOp .NotEq (.none) (.ref x)) Q E ⟨hp, gs, dr, tk, os⟩ := by
  obtain ⟨dx, _, _, _, _, _, _, _, hx, hdx, _⟩ := V.len
  show wpAny _ _ (richCompare .NotEq _ _) _ _ _
  exact own_right T.X hx hdx (by simp only [cLine]; omega) rfl sb_none PySem.F.slot_NoneType_ne (fun Q E q => Lc.d_NoneType_ne q) fi_ne ty_ne (nev_none T V hz (by omega) (by omega) hh fun h' tk' e => h _ _ e)
end
section
variable {prog : Program} {w : World} {A : Around} {E : Value → Shared → Prop} {hp : Heap} {gs : Array GenState} {dr : Drawn} {tk : Nat} {os : OsState} {mg mb : Str → Option Value} {x : Addr} {Q : Value → Shared → Prop} {xs : List Value} {base : Heap} {outer : List Env}
theorem sgr_v_tuple_lt {t0 : Addr} {its : List Value} {nt : Nat} (ht : hp.get? t0 = some { cls := .type "tuple", data := .seq its.toArray nt }) (T : Tp (KK w) mg mb hp) (V : VecAt hp x xs) (hz : xs.length ≤ 1000) (hroom : A.depth < 350) (hu : A.units < 700) (hh : A.handled = none) (hfr : A.frames = some outer) (hb : Ext base hp) (hff : hp.FunFrames base outer)
    (hn : ∀ e h' tk', Thrown base hp outer "TypeError" e h' → E (.ref e) ⟨h', gs, dr, tk', os⟩) : wpAny (model prog w) A (compareOp .Lt (.ref x) (.ref t0)) Q E ⟨hp, gs, dr, tk, os⟩ := by
  obtain ⟨dx, _, _, _, _, _, _, _, hx, hdx, _⟩ := V.len
  show wpAny _ _ (richCompare .Lt _ _) _ _ _
  exact own_left T.X hx hdx (by simp only [cLine]; omega) (fun _ _ _ _ k q => wpAny_typeOf ⟨_, k _ _ ht, rfl⟩ q) nf_tuple fi_lt ty_lt (lt_refused T V hz (by omega) hh hfr hb hff (fun A Q E h' tk e q => isi_tuple (e _ _ ht) (T.up e).X q) (fun A' Q' E' h' tk' D c hu' hA e hD ex => rfz_lt_tuple (e _ _ ht) hD hA (by omega) fun e h t ne => ex e h t ne) hn)
theorem sgr_tuple_v_lt {t0 : Addr} {its : List Value} {nt : Nat} (ht : hp.get? t0 = some { cls := .type "tuple", data := .seq its.toArray nt }) (T : Tp (KK w) mg mb hp) (V : VecAt hp x xs) (hz : xs.length ≤ 1000) (hroom : A.depth < 350) (hu : A.units < 700) (hh : A.handled = none) (hfr : A.frames = some outer) (hb : Ext base hp) (hff : hp.FunFrames base outer)
    (hn : ∀ e h' tk', Thrown base hp outer "TypeError" e h' → E (.ref e) ⟨h', gs, dr, tk', os⟩) : wpAny (model prog w) A (compareOp .Lt (.ref t0) (.ref x)) Q E ⟨hp, gs, dr, tk, os⟩ := by
  obtain ⟨dx, _, _, _, _, _, _, _, hx, hdx, _⟩ := V.len
  show wpAny _ _ (richCompare .Lt _ _) _ _ _
  exact own_right T.X hx hdx (by simp only [cLine]; omega) ⟨_, ht, rfl⟩ sb_tuple PySem.F.slot_tuple_lt (fun Q E q => Lc.d_tuple_lt ⟨_, ht, rfl⟩ (inst_of hx hdx).type (looks_subIn T.X sb_tuple) q) fi_gt ty_gt (gt_refused T V hz (by omega) hh hfr hb hff (fun A Q E h' tk e q => isi_tuple (e _ _ ht) (T.up e).X q) (fun A' Q' E' h' tk' D c hu' hA e hD ex => rfz_gt_tuple (e _ _ ht) hD hA (by omega) fun e h t ne => ex e h t ne) hn)
theorem sgr_v_tuple_le {t0 : Addr} {its : List Value} {nt : Nat} (ht : hp.get? t0 = some { cls := .type "tuple", data := .seq its.toArray nt }) (T : Tp (KK w) mg mb hp) (V : VecAt hp x xs) (hz : xs.length ≤ 1000) (hroom : A.depth < 350) (hu : A.units < 700) (hh : A.handled = none) (hfr : A.frames = some outer) (hb : Ext base hp) (hff : hp.FunFrames base outer)
    (hn : ∀ e h' tk', Thrown base hp outer "TypeError" e h' → E (.ref e) ⟨h', gs, dr, tk', os⟩) : wpAny (model prog w) A (compareOp .LtE (.ref x) (.ref t0)) Q E ⟨hp, gs, dr, tk, os⟩ := by
  obtain ⟨dx, _, _, _, _, _, _, _, hx, hdx, _⟩ := V.len
  show wpAny _ _ (richCompare .LtE _ _) _ _ _
  exact own_left T.X hx hdx (by simp only [cLine]; omega) (fun _ _ _ _ k q => wpAny_typeOf ⟨_, k _ _ ht, rfl⟩ q) nf_tuple fi_le ty_le (le_refused T V hz (by omega) hh hfr hb hff (fun A Q E h' tk e q => isi_tuple (e _ _ ht) (T.up e).X q) (fun A' Q' E' h' tk' D c hu' hA e hD ex => rfz_le_tuple (e _ _ ht) hD hA (by omega) fun e h t ne => ex e h t ne) hn)
theorem sgr_tuple_v_le {t0 : Addr} {its : List Value} {nt : Nat} (ht : hp.get? t0 = some { cls := .type "tuple", data := .seq its.toArray nt }) (T : Tp (KK w) mg mb hp) (V : VecAt hp x xs) (hz : xs.length ≤ 1000) (hroom : A.depth < 350) (hu : A.units < 700) (hh : A.handled = none) (hfr : A.frames = some outer) (hb : Ext base hp) (hff : hp.FunFrames base outer)
    (hn : ∀ e h' tk', Thrown base hp outer "TypeError" e h' → E (.ref e) ⟨h', gs, dr, tk', os⟩) : wpAny (model prog w) A (compareOp .LtE (.ref t0) (.ref x)) Q E ⟨hp, gs, dr, tk, os⟩ := by
  obtain ⟨dx, _, _, _, _, _, _, _, hx, hdx, _⟩ := V.len
  show wpAny _ _ (richCompare .LtE _ _) _ _ _
  exact own_right T.X hx hdx (by simp only [cLine]; omega) ⟨_, ht, rfl⟩ sb_tuple PySem.F.slot_tuple_le (fun Q E q => Lc.d_tuple_le ⟨_, ht, rfl⟩ (inst_of hx hdx).type (looks_subIn T.X sb_tuple) q) fi_ge ty_ge (ge_refused T V hz (by omega) hh hfr hb hff (fun A Q E h' tk e q => isi_tuple (e _ _ ht) (T.up e).X q) (fun A' Q' E' h' tk' D c hu' hA e hD ex => rfz_ge_tuple (e _ _ ht) hD hA (by omega) fun e h t ne => ex e h t ne) hn)
theorem sgr_v_tuple_gt {t0 : Addr} {its : List Value} {nt : Nat} (ht : hp.get? t0 = some { cls := .type "tuple", data := .seq its.toArray nt }) (T : Tp (KK w) mg mb hp) (V : VecAt hp x xs) (hz : xs.length ≤ 1000) (hroom : A.depth < 350) (hu : A.units < 700) (hh : A.handled = none) (hfr : A.frames = some outer) (hb : Ext base hp) (hff : hp.FunFrames base outer)
    (hn : ∀ e h' tk', Thrown base hp outer "TypeError" e h' → E (.ref e) ⟨h', gs, dr, tk', os⟩) : wpAny (model prog w) A (compareOp .Gt (.ref x) (.ref t0)) Q E ⟨hp, gs, dr, tk, os⟩ := by
  obtain ⟨dx, _, _, _, _, _, _, _, hx, hdx, _⟩ := V.len
  show wpAny _ _ (richCompare .Gt _ _) _ _ _
  exact own_left T.X hx hdx (by simp only [cLine]; omega) (fun _ _ _ _ k q => wpAny_typeOf ⟨_, k _ _ ht, rfl⟩ q) nf_tuple fi_gt ty_gt (gt_refused T V hz (by omega) hh hfr hb hff (fun A Q E h' tk e q => isi_tuple (e _ _ ht) (T.up e).X q) (fun A' Q' E' h' tk' D c hu' hA e hD ex => rfz_gt_tuple (e _ _ ht) hD hA (by omega) fun e h t ne => ex e h t ne) hn)
theorem sgr_tuple_v_gt {t0 : Addr} {its : List Value} {nt : Nat} (ht : hp.get? t0 = some { cls := .type "tuple", data := .seq its.toArray nt }) (T : Tp (KK w) mg mb hp) (V : VecAt hp x xs) (hz : xs.length ≤ 1000) (hroom : A.depth < 350) (hu : A.units < 700) (hh : A.handled = none) (hfr : A.frames = some outer) (hb : Ext base hp) (hff : hp.FunFrames base outer)
    (hn : ∀ e h' tk', Thrown base hp outer "TypeError" e h' → E (.ref e) ⟨h', gs, dr, tk', os⟩) : wpAny (model prog w) A (compareOp .Gt (.ref t0) (.ref x)) Q E ⟨hp, gs, dr, tk, os⟩ := by
  obtain ⟨dx, _, _, _, _, _, _, _, hx, hdx, _⟩ := V.len
  show wpAny _ _ (richCompare .Gt _ _) _ _ _
  exact own_right T.X hx hdx (by simp only [cLine]; omega) ⟨_, ht, rfl⟩ sb_tuple PySem.F.slot_tuple_gt (fun Q E q => Lc.d_tuple_gt ⟨_, ht, rfl⟩ (inst_of hx hdx).type (looks_subIn T.X sb_tuple) q) fi_lt ty_lt (lt_refused T V hz (by omega) hh hfr hb hff (fun A Q E h' tk e q => isi_tuple (e _ _ ht) (T.up e).X q) (fun A' Q' E' h' tk' D c hu' hA e hD ex => rfz_lt_tuple (e _ _ ht) hD hA (by omega) fun e h t ne => ex e h t ne) hn)
theorem sgr_v_tuple_ge {t0 : Addr} {its : List Value} {nt : Nat} (ht : hp.get? t0 = some { cls := .type "tuple", data := .seq its.toArray nt }) (T : Tp (KK w) mg mb hp) (V : VecAt hp x xs) (hz : xs.length ≤ 1000) (hroom : A.depth < 350) (hu : A.units < 700) (hh : A.handled = none) (hfr : A.frames = some outer) (hb : Ext base hp) (hff : hp.FunFrames base outer)
    (hn : ∀ e h' tk', Thrown base hp outer "TypeError" e h' → E (.ref e) ⟨h', gs, dr, tk', os⟩) : wpAny (model prog w) A (compareOp .GtE (.ref x) (.ref t0)) Q E ⟨hp, gs, dr, tk, os⟩ := by
  obtain ⟨dx, _, _, _, _, _, _, _, hx, hdx, _⟩ := V.len
  show wpAny _ _ (richCompare .GtE _ _) _ _ _
  exact own_left T.X hx hdx (by simp only [cLine]; omega) (fun _ _ _ _ k q => wpAny_typeOf ⟨_, k _ _ ht, rfl⟩ q) nf_tuple fi_ge ty_ge (ge_refused T V hz (by omega) hh hfr hb hff (fun A Q E h' tk e q => isi_tuple (e _ _ ht) (T.up e).X q) (fun A' Q' E' h' tk' D c hu' hA e hD ex => rfz_ge_tuple (e _ _ ht) hD hA (by omega) fun e h t ne => ex e h t ne) hn)
theorem sgr_tuple_v_ge {t0 : Addr} {its : List Value} {nt : Nat} (ht : hp.get? t0 = some { cls := .type "tuple", data := .seq its.toArray nt }) (T : Tp (KK w) mg mb hp) (V : VecAt hp x xs) (hz : xs.length ≤ 1000) (hroom : A.depth < 350) (hu : A.units < 700) (hh : A.handled = none) (hfr : A.frames = some outer) (hb : Ext base hp) (hff : hp.FunFrames base outer)
    (hn : ∀ e h' tk', Thrown base hp outer "TypeError" e h' → E (.ref e) ⟨h', gs, dr, tk', os⟩) : wpAny (model prog w) A (compareOp .GtE (.ref t0) (.ref x)) Q E ⟨hp, gs, dr, tk, os⟩ := by
  obtain ⟨dx, _, _, _, _, _, _, _, hx, hdx, _⟩ := V.len
  show wpAny _ _ (richCompare .GtE _ _) _ _ _
  exact own_right T.X hx hdx (by simp only [cLine]; omega) ⟨_, ht, rfl⟩ sb_tuple PySem.F.slot_tuple_ge (fun Q E q => Lc.d_tuple_ge ⟨_, ht, rfl⟩ (inst_of hx hdx).type (looks_subIn T.X sb_tuple) q) fi_le ty_le (le_refused T V hz (by omega) hh hfr hb hff (fun A Q E h' tk e q => isi_tuple (e _ _ ht) (T.up e).X q) (fun A' Q' E' h' tk' D c hu' hA e hD ex => rfz_le_tuple (e _ _ ht) hD hA (by omega) fun e h t ne => ex e h t ne) hn)
theorem sgr_v_int_lt {k : Int} {u : Tok} (T : Tp (KK w) mg mb hp) (V : VecAt hp x xs) (hz : xs.length ≤ 1000) (hroom : A.depth < 350) (hu : A.units < 700) (hh : A.handled = none) (hfr : A.frames = some outer) (hb : Ext base hp) (hff : hp.FunFrames base outer)
    (hn : ∀ e h' tk', Thrown base hp outer "TypeError" e h' → E (.ref e) ⟨h', gs, dr, tk', os⟩) : wpAny (model prog w) A (compareOp .Lt (.ref x) (.int k u)) Q E ⟨hp, gs, dr, tk, os⟩ := by
  obtain ⟨dx, _, _, _, _, _, _, _, hx, hdx, _⟩ := V.len
  show wpAny _ _ (richCompare .Lt _ _) _ _ _
  exact own_left T.X hx hdx (by simp only [cLine]; omega) (fun _ _ _ _ _ q => wpAny_typeOf (T := "int") rfl q) nf_int fi_lt ty_lt (lt_refused T V hz (by omega) hh hfr hb hff (fun A Q E h' tk e q => isi_int (T.up e).X q) (fun A' Q' E' h' tk' D c hu' hA e hD ex => rfz_lt_int hD hA (by omega) fun e h t ne => ex e h t ne) hn)
theorem sgr_int_v_lt {k : Int} {u : Tok} (T : Tp (KK w) mg mb hp) (V : VecAt hp x xs) (hz : xs.length ≤ 1000) (hroom : A.depth < 350) (hu : A.units < 700) (hh : A.handled = none) (hfr : A.frames = some outer) (hb : Ext base hp) (hff : hp.FunFrames base outer)
    (hn : ∀ e h' tk', Thrown base hp outer "TypeError" e h' → E (.ref e) ⟨h', gs, dr, tk', os⟩) : wpAny (model prog w) A (compareOp .Lt (.int k u) (.ref x)) Q E ⟨hp, gs, dr, tk, os⟩ := by
  obtain ⟨dx, _, _, _, _, _, _, _, hx, hdx, _⟩ := V.len
  show wpAny _ _ (richCompare .Lt _ _) _ _ _
  exact own_right T.X hx hdx (by simp only [cLine]; omega) (typeIs_int _ k u) sb_int PySem.F.slot_int_lt (fun Q E q => Lc.d_int_lt hx (fun _ q => by cases q) q) fi_gt ty_gt (gt_refused T V hz (by omega) hh hfr hb hff (fun A Q E h' tk e q => isi_int (T.up e).X q) (fun A' Q' E' h' tk' D c hu' hA e hD ex => rfz_gt_int hD hA (by omega) fun e h t ne => ex e h t ne) hn)
theorem sgr_v_int_le {k : Int} {u : Tok} (T : Tp (KK w) mg mb hp) (V : VecAt hp x xs) (hz : xs.length ≤ 1000) (hroom : A.depth < 350) (hu : A.units < 700) (hh : A.handled = none) (hfr : A.frames = some outer) (hb : Ext base hp) (hff : hp.FunFrames base outer)
    (hn : ∀ e h' tk', Thrown base hp outer "TypeError" e h' → E (.ref e) ⟨h', gs, dr, tk', os⟩) : wpAny (model prog w) A (compareOp .LtE (.ref x) (.int k u)) Q E ⟨hp, gs, dr, tk, os⟩ := by
  obtain ⟨dx, _, _, _, _, _, _, _, hx, hdx, _⟩ := V.len
  show wpAny _ _ (richCompare .LtE _ _) _ _ _
  exact own_left T.X hx hdx (by simp only [cLine]; omega) (fun _ _ _ _ _ q => wpAny_typeOf (T := "int") rfl q) nf_int fi_le ty_le (le_refused T V hz (by omega) hh hfr hb hff (fun A Q E h' tk e q => isi_int (T.up e).X q) (fun A' Q' E' h' tk' D c hu' hA e hD ex => rfz_le_int hD hA (by omega) fun e h t ne => ex e h t ne) hn)
theorem sgr_int_v_le {k : Int} {u : Tok} (T : Tp (KK w) mg mb hp) (V : VecAt hp x xs) (hz : xs.length ≤ 1000) (hroom : A.depth < 350) (hu : A.units < 700) (hh : A.handled = none) (hfr : A.frames = some outer) (hb : Ext base hp) (hff : hp.FunFrames base outer)
    (hn : ∀ e h' tk', Thrown base hp outer "TypeError" e h' → E (.ref e) ⟨h', gs, dr, tk', os⟩) : wpAny (model prog w) A (compareOp .LtE (.int k u) (.ref x)) Q E ⟨hp, gs, dr, tk, os⟩ := by
  obtain ⟨dx, _, _, _, _, _, _, _, hx, hdx, _⟩ := V.len
  show wpAny _ _ (richCompare .LtE _ _) _ _ _
  exact own_right T.X hx hdx (by simp only [cLine]; omega) (typeIs_int _ k u) sb_int PySem.F.slot_int_le (fun Q E q => Lc.d_int_le hx (fun _ q => by cases q) q) fi_ge ty_ge (ge_refused T V hz (by omega) hh hfr hb hff (fun A Q E h' tk e q => isi_int (T.up e).X q) (fun A' Q' E' h' tk' D c hu' hA e hD ex => rfz_ge_int hD hA (by omega) fun e h t ne => ex e h t ne) hn)
theorem sgr_v_int_gt {k : Int} {u : Tok} (T : Tp (KK w) mg mb hp) (V : VecAt hp x xs) (hz : xs.length ≤ 1000) (hroom : A.depth < 350) (hu : A.units < 700) (hh : A.handled = none) (hfr : A.frames = some outer) (hb : Ext base hp) (hff : hp.FunFrames base outer)
    (hn : ∀ e h' tk', Thrown base hp outer "TypeError" e h' → E (.ref e) ⟨h', gs, dr, tk', os⟩) : wpAny (model prog w) A (compareOp .Gt (.ref x) (.int k u)) Q E ⟨hp, gs, dr, tk, os⟩ := by
  obtain ⟨dx, _, _, _, _, _, _, _, hx, hdx, _⟩ := V.len
  show wpAny _ _ (richCompare .Gt _ _) _ _ _
  exact own_left T.X hx hdx (by simp only [cLine]; omega) (fun _ _ _ _ _ q => wpAny_typeOf (T := "int") rfl q) nf_int fi_gt ty_gt (gt_refused T V hz (by omega) hh hfr hb hff (fun A Q E h' tk e q => isi_int (T.up e).X q) (fun A' Q' E' h' tk' D c hu' hA e hD ex => rfz_gt_int hD hA (by omega) fun e h t ne => ex e h t ne) hn)
theorem sgr_int_v_gt {k : Int} {u : Tok} (T : Tp (KK w) mg mb hp) (V : VecAt hp x xs) (hz : xs.length ≤ 1000) (hroom : A.depth < 350) (hu : A.units < 700) (hh : A.handled = none) (hfr : A.frames = some outer) (hb : Ext base hp) (hff : hp.FunFrames base outer)
    (hn : ∀ e h' tk', Thrown base hp outer "TypeError" e h' → E (.ref e) ⟨h', gs, dr, tk', os⟩) : wpAny (model prog w) A (compareOp .Gt (.int k u) (.ref x)) Q E ⟨hp, gs, dr, tk, os⟩ := by
  obtain ⟨dx, _, _, _, _, _, _, _, hx, hdx, _⟩ := V.len
  show wpAny _ _ (richCompare .Gt _ _) _ _ _
  exact own_right T.X hx hdx (by simp only [cLine]; omega) (typeIs_int _ k u) sb_int PySem.F.slot_int_gt (fun Q E q => Lc.d_int_gt hx (fun _ q => by cases q) q) fi_lt ty_lt (lt_refused T V hz (by omega) hh hfr hb hff (fun A Q E h' tk e q => isi_int (T.up e).X q) (fun A' Q' E' h' tk' D c hu' hA e hD ex => rfz_lt_int hD hA (by omega) fun e h t ne => ex e h t ne) hn)
theorem sgr_v_int_ge {k : Int} {u : Tok} (T : Tp (KK w) mg mb hp) (V : VecAt hp x xs) (hz : xs.length ≤ 1000) (hroom : A.depth < 350) (hu : A.units < 700) (hh : A.handled = none) (hfr : A.frames = some outer) (hb : Ext base hp) (hff : hp.FunFrames base outer)
    (hn : ∀ e h' tk', Thrown base hp outer "TypeError" e h' → E (.ref e) ⟨h', gs, dr, tk', os⟩) : wpAny (model prog w) A (compareOp .GtE (.ref x) (.int k u)) Q E ⟨hp, gs, dr, tk, os⟩ := by
  obtain ⟨dx, _, _, _, _, _, _, _, hx, hdx, _⟩ := V.len
  show wpAny _ _ (richCompare .GtE _ _) _ _ _
  exact own_left T.X hx hdx (by simp only [cLine]; omega) (fun _ _ _ _ _ q => wpAny_typeOf (T := "int") rfl q) nf_int fi_ge ty_ge (ge_refused T V hz (by omega) hh hfr hb hff (fun A Q E h' tk e q => isi_int (T.up e).X q) (fun A' Q' E' h' tk' D c hu' hA e hD ex => rfz_ge_int hD hA (by omega) fun e h t ne => ex e h t ne) hn)
theorem sgr_int_v_ge {k : Int} {u : Tok} (T : Tp (KK w) mg mb hp) (V : VecAt hp x xs) (hz : xs.length ≤ 1000) (hroom : A.depth < 350) (hu : A.units < 700) (hh : A.handled = none) (hfr : A.frames = some outer) (hb : Ext base hp) (hff : hp.FunFrames base outer)
    (hn : ∀ e h' tk', Thrown base hp outer "TypeError" e h' → E (.ref e) ⟨h', gs, dr, tk', os⟩) : wpAny (model prog w) A (compareOp .GtE (.int k u) (.ref x)) Q E ⟨hp, gs, dr, tk, os⟩ := by
  obtain ⟨dx, _, _, _, _, _, _, _, hx, hdx, _⟩ := V.len
  show wpAny _ _ (richCompare .GtE _ _) _ _ _
  exact own_right T.X hx hdx (by simp only [cLine]; omega) (typeIs_int _ k u) sb_int PySem.F.slot_int_ge (fun Q E q => Lc.d_int_ge hx (fun _ q => by cases q) q) fi_le ty_le (le_refused T V hz (by omega) hh hfr hb hff (fun A Q E h' tk e q => isi_int (T.up e).X q) (fun A' Q' E' h' tk' D c hu' hA e hD ex => rfz_le_int hD hA (by omega) fun e h t ne => ex e h t ne) hn)
theorem sgr_v_str_lt {k : Str} {u : Tok} (T : Tp (KK w) mg mb hp) (V : VecAt hp x xs) (hz : xs.length ≤ 1000) (hroom : A.depth < 350) (hu : A.units < 700) (hh : A.handled = none) (hfr : A.frames = some outer) (hb : Ext base hp) (hff : hp.FunFrames base outer)
    (hn : ∀ e h' tk', Thrown base hp outer "TypeError" e h' → E (.ref e) ⟨h', gs, dr, tk', os⟩) : wpAny (model prog w) A (compareOp .Lt (.ref x) (.str k u)) Q E ⟨hp, gs, dr, tk, os⟩ := by
  obtain ⟨dx, _, _, _, _, _, _, _, hx, hdx, _⟩ := V.len
  show wpAny _ _ (richCompare .Lt _ _) _ _ _
  exact own_left T.X hx hdx (by simp only [cLine]; omega) (fun _ _ _ _ _ q => wpAny_typeOf (T := "str") rfl q) nf_str fi_lt ty_lt (lt_refused T V hz (by omega) hh hfr hb hff (fun A Q E h' tk e q => isi_str (T.up e).X q) (fun A' Q' E' h' tk' D c hu' hA e hD ex => rfz_lt_str hD hA (by omega) fun e h t ne => ex e h t ne) hn)
theorem sgr_str_v_lt {k : Str} {u : Tok} (T : Tp (KK w) mg mb hp) (V : VecAt hp x xs) (hz : xs.length ≤ 1000) (hroom : A.depth < 350) (hu : A.units < 700) (hh : A.handled = none) (hfr : A.frames = some outer) (hb : Ext base hp) (hff : hp.FunFrames base outer)
    (hn : ∀ e h' tk', Thrown base hp outer "TypeError" e h' → E (.ref e) ⟨h', gs, dr, tk', os⟩) : wpAny (model prog w) A (compareOp .Lt (.str k u) (.ref x)) Q E ⟨hp, gs, dr, tk, os⟩ := by
  obtain ⟨dx, _, _, _, _, _, _, _, hx, hdx, _⟩ := V.len
  show wpAny _ _ (richCompare .Lt _ _) _ _ _
  exact own_right T.X hx hdx (by simp only [cLine]; omega) (typeIs_str _ k u) sb_str PySem.F.slot_str_lt (fun Q E q => Lc.d_str_lt hx (fun _ q => by cases q) q) fi_gt ty_gt (gt_refused T V hz (by omega) hh hfr hb hff (fun A Q E h' tk e q => isi_str (T.up e).X q) (fun A' Q' E' h' tk' D c hu' hA e hD ex => rfz_gt_str hD hA (by omega) fun e h t ne => ex e h t ne) hn)
theorem sgr_v_str_le {k : Str} {u : Tok} (T : Tp (KK w) mg mb hp) (V : VecAt hp x xs) (hz : xs.length ≤ 1000) (hroom : A.depth < 350) (hu : A.units < 700) (hh : A.handled = none) (hfr : A.frames = some outer) (hb : Ext base hp) (hff : hp.FunFrames base outer)
    (hn : ∀ e h' tk', Thrown base hp outer "TypeError" e h' → E (.ref e) ⟨h', gs, dr, tk', os⟩) : wpAny (model prog w) A (compareOp .LtE (.ref x) (.str k u)) Q E ⟨hp, gs, dr, tk, os⟩ := by
  obtain ⟨dx, _, _, _, _, _, _, _, hx, hdx, _⟩ := V.len
  show wpAny _ _ (richCompare .LtE _ _) _ _ _
  exact own_left T.X hx hdx (by simp only [cLine]; omega) (fun _ _ _ _ _ q => wpAny_typeOf (T := "str") rfl q) nf_str fi_le ty_le (le_refused T V hz (by omega) hh hfr hb hff (fun A Q E h' tk e q => isi_str (T.up e).X q) (fun A' Q' E' h' tk' D c hu' hA e hD ex => rfz_le_str hD hA (by omega) fun e h t ne => ex e h t ne) hn)
theorem sgr_str_v_le {k : Str} {u : Tok} (T : Tp (KK w) mg mb hp) (V : VecAt hp x xs) (hz : xs.length ≤ 1000) (hroom : A.depth < 350) (hu : A.units < 700) (hh : A.handled = none) (hfr : A.frames = some outer) (hb : Ext base hp) (hff : hp.FunFrames base outer)
    (hn : ∀ e h' tk', Thrown base hp outer "TypeError" e h' → E (.ref e) ⟨h', gs, dr, tk', os⟩) : wpAny (model prog w) A (compareOp .LtE (.str k u) (.ref x)) Q E ⟨hp, gs, dr, tk, os⟩ := by
  obtain ⟨dx, _, _, _, _, _, _, _, hx, hdx, _⟩ := V.len
  show wpAny _ _ (richCompare .LtE _ _) _ _ _
  exact own_right T.X hx hdx (by simp only [cLine]; omega) (typeIs_str _ k u) sb_str PySem.F.slot_str_le (fun Q E q => Lc.d_str_le hx (fun _ q => by cases q) q) fi_ge ty_ge (ge_refused T V hz (by omega) hh hfr hb hff (fun A Q E h' tk e q => isi_str (T.up e).X q) (fun A' Q' E' h' tk' D c hu' hA e hD ex => rfz_ge_str hD hA (by omega) fun e h t ne => ex e h t ne) hn)
theorem sgr_v_str_gt {k : Str} {u : Tok} (T : Tp (KK w) mg mb hp) (V : VecAt hp x xs) (hz : xs.length ≤ 1000) (hroom : A.depth < 350) (hu : A.units < 700) (hh : A.handled = none) (hfr : A.frames = some outer) (hb : Ext base hp) (hff : hp.FunFrames base outer)
    (hn : ∀ e h' tk', Thrown base hp outer "TypeError" e h' → E (.ref e) ⟨h', gs, dr, tk', os⟩) : wpAny (model prog w) A (compareOp .Gt (.ref x) (.str k u)) Q E ⟨hp, gs, dr, tk, os⟩ := by
  obtain ⟨dx, _, _, _, _, _, _, _, hx, hdx, _⟩ := V.len
  show wpAny _ _ (richCompare .Gt _ _) _ _ _
  exact own_left T.X hx hdx (by simp only [cLine]; omega) (fun _ _ _ _ _ q => wpAny_typeOf (T := "str") rfl q) nf_str fi_gt ty_gt (gt_refused T V hz (by omega) hh hfr hb hff (fun A Q E h' tk e q => isi_str (T.up e).X q) (fun A' Q' E' h' tk' D c hu' hA e hD ex => rfz_gt_str hD hA (by omega) fun e h t ne => ex e h t ne) hn)
theorem sgr_str_v_gt {k : Str} {u : Tok} (T : Tp (KK w) mg mb hp) (V : VecAt hp x xs) (hz : xs.length ≤ 1000) (hroom : A.depth < 350) (hu : A.units < 700) (hh : A.handled = none) (hfr : A.frames = some outer) (hb : Ext base hp) (hff : hp.FunFrames base outer)
    (hn : ∀ e h' tk', Thrown base hp outer "TypeError" e h' → E (.ref e) ⟨h', gs, dr, tk', os⟩) : wpAny (model prog w) A (compareOp .Gt (.str k u) (.ref x)) Q E ⟨hp, gs, dr, tk, os⟩ := by
  obtain ⟨dx, _, _, _, _, _, _, _, hx, hdx, _⟩ := V.len
  show wpAny _ _ (richCompare .Gt _ _) _ _ _
  exact own_right T.X hx hdx (by simp only [cLine]; omega) (typeIs_str _ k u) sb_str PySem.F.slot_str_gt (fun Q E q => Lc.d_str_gt hx (fun _ q => by cases q) q) fi_lt ty_lt (lt_refused T V hz (by omega) hh hfr hb hff (fun A Q E h' tk e q => isi_str (T.up e).X q) (fun A' Q' E' h' tk' D c hu' hA e hD ex => rfz_lt_str hD hA (by omega) fun e h t ne => ex e h t ne) hn)
theorem sgr_v_str_ge {k : Str} {u : Tok} (T : Tp (KK w) mg mb hp) (V : VecAt hp x xs) (hz : xs.length ≤ 1000) (hroom : A.depth < 350) (hu : A.units < 700) (hh : A.handled = none) (hfr : A.frames = some outer) (hb : Ext base hp) (hff : hp.FunFrames base outer)
    (hn : ∀ e h' tk', Thrown base hp outer "TypeError" e h' → E (.ref e) ⟨h', gs, dr, tk', os⟩) : wpAny (model prog w) A (compareOp .GtE (.ref x) (.str k u)) Q E ⟨hp, gs, dr, tk, os⟩ := by
  obtain ⟨dx, _, _, _, _, _, _, _, hx, hdx, _⟩ := V.len
  show wpAny _ _ (richCompare .GtE _ _) _ _ _
  exact own_left T.X hx hdx (by simp only [cLine]; omega) (fun _ _ _ _ _ q => wpAny_typeOf (T := "str") rfl q) nf_str fi_ge ty_ge (ge_refused T V hz (by omega) hh hfr hb hff (fun A Q E h' tk e q => isi_str (T.up e).X q) (fun A' Q' E' h' tk' D c hu' hA e hD ex => rfz_ge_str hD hA (by omega) fun e h t ne => ex e h t ne) hn)
theorem sgr_str_v_ge {k : Str} {u : Tok} (T : Tp (KK w) mg mb hp) (V : VecAt hp x xs) (hz : xs.length ≤ 1000) (hroom : A.depth < 350) (hu : A.units < 700) (hh : A.handled = none) (hfr : A.frames = some outer) (hb : Ext base hp) (hff : hp.FunFrames base outer)
    (hn : ∀ e h' tk', Thrown base hp outer "TypeError" e h' → E (.ref e) ⟨h', gs, dr, tk', os⟩) : wpAny (model prog w) A (compareOp .GtE (.str k u) (.ref x)) Q E ⟨hp, gs, dr, tk, os⟩ := by
  obtain ⟨dx, _, _, _, _, _, _, _, hx, hdx, _⟩ := V.len
  show wpAny _ _ (richCompare .GtE _ _) _ _ _
  exact own_right T.X hx hdx (by simp only [cLine]; omega) (typeIs_str _ k u) sb_str PySem.F.slot_str_ge (fun Q E q => Lc.d_str_ge hx (fun _ q => by cases q) q) fi_le ty_le (le_refused T V hz (by omega) hh hfr hb hff (fun A Q E h' tk e q => isi_str (T.up e).X q) (fun A' Q' E' h' tk' D c hu' hA e hD ex => rfz_le_str hD hA (by omega) fun e h t ne => ex e h t ne) hn)
theorem sgr_v_NoneType_lt  (T : Tp (KK w) mg mb hp) (V : VecAt hp x xs) (hz : xs.length ≤ 1000) (hroom : A.depth < 350) (hu : A.units < 700) (hh : A.handled = none) (hfr : A.frames = some outer) (hb : Ext base hp) (hff : hp.FunFrames base outer)
    (hn : ∀ e h' tk', Thrown base hp outer "TypeError" e h' → E (.ref e) ⟨h', gs, dr, tk', os⟩) : wpAny (model prog w) A (compareOp .Lt (.ref x) (.none)) Q E ⟨hp, gs, dr, tk, os⟩ := by
  obtain ⟨dx, _, _, _, _, _, _, _, hx, hdx, _⟩ := V.len
  show wpAny _ _ (richCompare .Lt _ _) _ _ _
  exact own_left T.X hx hdx (by simp only [cLine]; omega) (fun _ _ _ _ _ q => wpAny_typeOf (T := "NoneType") rfl q) nf_none fi_lt ty_lt (lt_refused T V hz (by omega) hh hfr hb hff (fun A Q E h' tk e q => isi_NoneType (T.up e).X q) (fun A' Q' E' h' tk' D c hu' hA e hD ex => rfz_lt_NoneType hD hA (by omega) fun e h t ne => ex e h t ne) hn)
theorem sgr_NoneType_v_lt  (T : Tp (KK w) mg mb hp) (V : VecAt hp x xs) (hz : xs.length ≤ 1000) (hroom : A.depth < 350) (hu : A.units < 700) (hh : A.handled = none) (hfr : A.frames = some outer) (hb : Ext base hp) (hff : hp.FunFrames base outer)
    (hn : ∀ e h' tk', Thrown base hp outer "TypeError" e h' → E (.ref e) ⟨h', gs, dr, tk', os⟩) : wpAny (model prog w) A (compareOp .Lt (.none) (.ref x)) Q E ⟨hp, gs, dr, tk, os⟩ := by
  obtain ⟨dx, _, _, _, _, _, _, _, hx, hdx, _⟩ := V.len
  show wpAny _ _ (richCompare .Lt _ _) _ _ _
  exact own_right T.X hx hdx (by simp only [cLine]; omega) rfl sb_none PySem.F.slot_NoneType_lt (fun Q E q => Lc.d_NoneType_lt q) fi_gt ty_gt (gt_refused T V hz (by omega) hh hfr hb hff (fun A Q E h' tk e q => isi_NoneType (T.up e).X q) (fun A' Q' E' h' tk' D c hu' hA e hD ex => rfz_gt_NoneType hD hA (by omega) fun e h t ne => ex e h t ne) hn)
theorem sgr_v_NoneType_le  (T : Tp (KK w) mg mb hp) (V : VecAt hp x xs) (hz : xs.length ≤ 1000) (hroom : A.depth < 350) (hu : A.units < 700) (hh : A.handled = none) (hfr : A.frames = some outer) (hb : Ext base hp) (hff : hp.FunFrames base outer)
    (hn : ∀ e h' tk', Thrown base hp outer "TypeError" e h' → E (.ref e) ⟨h', gs, dr, tk', os⟩) : wpAny (model prog w) A (compareOp .LtE (.ref x) (.none)) Q E ⟨hp, gs, dr, tk, os⟩ := by
  obtain ⟨dx, _, _, _, _, _, _, _, hx, hdx, _⟩ := V.len
  show wpAny _ _ (richCompare .LtE _ _) _ _ _
  exact own_left T.X hx hdx (by simp only [cLine]; omega) (fun _ _ _ _ _ q => wpAny_typeOf (T := "NoneType") rfl q) nf_none fi_le ty_le (le_refused T V hz (by omega) hh hfr hb hff (fun A Q E h' tk e q => isi_NoneType (T.up e).X q) (fun A' Q' E' h' tk' D c hu' hA e hD ex => rfz_le_NoneType hD hA (by omega) fun e h t ne => ex e h t ne) hn)
theorem sgr_NoneType_v_le  (T : Tp (KK w) mg mb hp) (V : VecAt hp x xs) (hz : xs.length ≤ 1000) (hroom : A.depth < 350) (hu : A.units < 700) (hh : A.handled = none) (hfr : A.frames = some outer) (hb : Ext base hp) (hff : hp.FunFrames base outer)
    (hn : ∀ e h' tk', Thrown base hp outer "TypeError" e h' → E (.ref e) ⟨h', gs, dr, tk', os⟩) : wpAny (model prog w) A (compareOp .LtE (.none) (.ref x)) Q E ⟨hp, gs, dr, tk, os⟩ := by
  obtain ⟨dx, _, _, _, _, _, _, _, hx, hdx, _⟩ := V.len
  show wpAny _ _ (richCompare .LtE _ _) _ _ _
  exact own_right T.X hx hdx (by simp only [cLine]; omega) rfl sb_none PySem.F.slot_NoneType_le (fun Q E q => Lc.d_NoneType_le q) fi_ge ty_ge (ge_refused T V hz (by omega) hh hfr hb hff (fun A Q E h' tk e q => isi_NoneType (T.up e).X q) (fun A' Q' E' h' tk' D c hu' hA e hD ex => rfz_ge_NoneType hD hA (by omega) fun e h t ne => ex e h t ne) hn)
theorem sgr_v_NoneType_gt  (T : Tp (KK w) mg mb hp) (V : VecAt hp x xs) (hz : xs.length ≤ 1000) (hroom : A.depth < 350) (hu : A.units < 700) (hh : A.handled = none) (hfr : A.frames = some outer) (hb : Ext base hp) (hff : hp.FunFrames base outer)
    (hn : ∀ e h' tk', Thrown base hp outer "TypeError" e h' → E (.ref e) ⟨h', gs, dr, tk', os⟩) : wpAny (model prog w) A (compareOp .Gt (.ref x) (.none)) Q E ⟨hp, gs, dr, tk, os⟩ := by
  obtain ⟨dx, _, _, _, _, _, _, _, hx, hdx, _⟩ := V.len
  show wpAny _ _ (richCompare .Gt _ _) _ _ _
  exact own_left T.X hx hdx (by simp only [cLine]; omega) (fun _ _ _ _ _ q => wpAny_typeOf (T := "NoneType") rfl q) nf_none fi_gt ty_gt (gt_refused T V hz (by omega) hh hfr hb hff (fun A Q E h' tk e q => isi_NoneType (T.up e).X q) (fun A' Q' E' h' tk' D c hu' hA e hD ex => rfz_gt_NoneType hD hA (by omega) fun e h t ne => ex e h t ne) hn)
theorem sgr_NoneType_v_gt  (T : Tp (KK w) mg mb hp) (V : VecAt hp x xs) (hz : xs.length ≤ 1000) (hroom : A.depth < 350) (hu : A.units < 700) (hh : A.handled = none) (hfr : A.frames = some outer) (hb : Ext base hp) (hff : hp.FunFrames base outer)
    (hn : ∀ e h' tk', Thrown base hp outer "TypeError" e h' → E (.ref e) ⟨h', gs, dr, tk', os⟩) : wpAny (model prog w) A (compareOp .Gt (.none) (.ref x)) Q E ⟨hp, gs, dr, tk, os⟩ := by
  obtain ⟨dx, _, _, _, _, _, _, _, hx, hdx, _⟩ := V.len
  show wpAny _ _ (richCompare .Gt _ _) _ _ _
  exact own_right T.X hx hdx (by simp only [cLine]; omega) rfl sb_none PySem.F.slot_NoneType_gt (fun Q E q => Lc.d_NoneType_gt q) fi_lt ty_lt (lt_refused T V hz (by omega) hh hfr hb hff (fun A Q E h' tk e q => isi_NoneType (T.up e).X q) (fun A' Q' E' h' tk' D c hu' hA e hD ex => rfz_lt_NoneType hD hA (by omega) fun e h t ne => ex e h t ne) hn)
theorem sgr_v_NoneType_ge  (T : Tp (KK w) mg mb hp) (V : VecAt hp x xs) (hz : xs.length ≤ 1000) (hroom : A.depth < 350) (hu : A.units < 700) (hh : A.handled = none) (hfr : A.frames = some outer) (hb : Ext base hp) (hff : hp.FunFrames base outer)
    (hn : ∀ e h' tk', Thrown base hp outer "TypeError" e h' → E (.ref e) ⟨h', gs, dr, tk', os⟩) : wpAny (model prog w) A (compareOp .GtE (.ref x) (.none)) Q E ⟨hp, gs, dr, tk, os⟩ := by
  obtain ⟨dx, _, _, _, _, _, _, _, hx, hdx, _⟩ := V.len
  show wpAny _ _ (richCompare .GtE _ _) _ _ _
  exact own_left T.X hx hdx (by simp only [cLine]; omega) (fun _ _ _ _ _ q => wpAny_typeOf (T := "NoneType") rfl q) nf_none fi_ge ty_ge (ge_refused T V hz (by omega) hh hfr hb hff (fun A Q E h' tk e q => isi_NoneType (T.up e).X q) (fun A' Q' E' h' tk' D c hu' hA e hD ex => rfz_ge_NoneType hD hA (by omega) fun e h t ne => ex e h t ne) hn)
theorem sgr_NoneType_v_ge  (T : Tp (KK w) mg mb hp) (V : VecAt hp x xs) (hz : xs.length ≤ 1000) (hroom : A.depth < 350) (hu : A.units < 700) (hh : A.handled = none) (hfr : A.frames = some outer) (hb : Ext base hp) (hff : hp.FunFrames base outer)
    (hn : ∀ e h' tk', Thrown base hp outer "TypeError" e h' → E (.ref e) ⟨h', gs, dr, tk', os⟩) : wpAny (model prog w) A (compareOp .GtE (.none) (.ref x)) Q E ⟨hp, gs, dr, tk, os⟩ := by
  obtain ⟨dx, _, _, _, _, _, _, _, hx, hdx, _⟩ := V.len
  show wpAny _ _ (richCompare .GtE _ _) _ _ _
  exact own_right T.X hx hdx (by simp only [cLine]; omega) rfl sb_none PySem.F.slot_NoneType_ge (fun Q E q => Lc.d_NoneType_ge q) fi_le ty_le (le_refused T V hz (by omega) hh hfr hb hff (fun A Q E h' tk e q => isi_NoneType (T.up e).X q) (fun A' Q' E' h' tk' D c hu' hA e hD ex => rfz_le_NoneType hD hA (by omega) fun e h t ne => ex e h t ne) hn)
end
section
variable {prog : Program} {w : World} {A : Around} {R : Result → Shared → Prop} {hp : Heap} {gs : Array GenState} {dr : Drawn} {tk₀ : Nat} {os : OsState}
theorem loop_duoX {x y : Str} {px py pt : Pos} {kk : Nat} {body : List Stmt} {b : Heap} {L a : Addr} {m : Str → Option Value} {own : List (Addr × Obj)} {cn : Str} {cs : Scope} {ccd : Value} {cl : List (Str × Addr)}
    {I : Addr} {fp wr tr : List Addr} {n : Nat} {Pt : Nat → Array Value → Prop} {St : Nat → Heap → Prop} {Mid : Nat → Addr → Heap → Prop} (W : WalksT prog w A I fp wr n Pt St Mid) (hst : St 0 hp) (F : Fx b L hp m own) (hh : A.handled = none)
    (hpt : ∀ i vals, Pt i vals → ∃ v1 v2, vals = #[v1, v2])
    (hsub : ∀ a ∈ wr, a ∈ tr) (hfp : ∀ a ∈ fp, a ∉ tr → ∃ o, b.get? a = some o) (hwr : ∀ a ∈ tr, b.get? a = none ∧ a ≠ L ∧ ∀ p ∈ own, p.1 ≠ a) (hnd : tr.Nodup) (hex : ∀ i h, St i h → ∀ a ∈ tr, ∃ o, h.get? a = some o)
    (Inv : Nat → Heap → (Str → Option Value) → List (Addr × Obj) → Prop) (h0 : Inv 0 b m own)
    (step : ∀ i v1 v2 b₁ m₁ own₁ h₁ tk₁ it E', i < n → Pt i #[v1, v2] → Inv i b₁ m₁ own₁ → Ext b b₁ → Fx b₁ L h₁ (fun z => if z = y then some v2 else if z = x then some v1 else m₁ z) (own₁ ++ it) →
      wpAny (model prog w) A (execs body (envX cn cs L a ccd cl)) (Turned gs dr os L it b₁ (Inv (i + 1)) fun f s' => R (.ok f) s') E' ⟨h₁, gs, dr, tk₁, os⟩)
    (fin : ∀ h' tk b' m' own', Inv n b' m' own' → Ext b b' → Fx b' L h' m' own' → R (.ok .next) ⟨h', gs, dr, tk, os⟩)
    (hk : cs.kind = .function := by with_unfolding_all rfl) (hx : (envX cn cs L a ccd cl).kindOf x = some .local := by with_unfolding_all rfl) (hy : (envX cn cs L a ccd cl).kindOf y = some .local := by with_unfolding_all rfl) :
    codeAny (model prog w) A (.forLoop (.Tuple [.Name x px, .Name y py] kk pt) (.ref I) body [] (envX cn cs L a ccd cl)) R ⟨hp, gs, dr, tk₀, os⟩ := by
  have he : assignEach [Expr.Name x px, Expr.Name y py] (envX cn cs L a ccd cl) = [(false, assign (.Name x px) (envX cn cs L a ccd cl)), (false, assign (.Name y py) (envX cn cs L a ccd cl))] := by with_unfolding_all rfl
  refine codeAny_forLoop_any (fun k s' => ∃ h' tk b' m' own' i, s' = ⟨h', gs, dr, tk, os⟩ ∧ k = n + 1 - i ∧ i ≤ n ∧ St i h' ∧ Ext b b' ∧ Fx b' L h' m' own' ∧ Inv i b' m' own' ∧ (∀ a ∈ tr, b'.get? a = none ∧ a ≠ L ∧ ∀ p ∈ own', p.1 ≠ a)) ?_ (n + 1)
    ⟨hp, tk₀, b, m, own, 0, rfl, rfl, Nat.zero_le _, hst, .rfl', F, h0, hwr⟩
  rintro k s' ⟨h, tk, b', m', own', i, rfl, rfl, hi, st, eb, F', inv, hw⟩
  have keepF : ∀ {h₁ : Heap}, (∀ c o, c ∉ wr → h.get? c = some o → h₁.get? c = some o) → Fx b' L h₁ m' own' := fun {h₁} hk₁ => by
    obtain ⟨oL, es, ep, gL, r⟩ := F'.ns
    refine ⟨⟨oL, es, ep, hk₁ _ _ (fun q => (hw _ (hsub _ q)).2.1 rfl) gL, r⟩, fun c o e => hk₁ c o (fun q => by rw [(hw _ (hsub _ q)).1] at e; cases e) (F'.keep c o e), F'.lout, fun p hp => hk₁ _ _ (fun q => (hw _ (hsub _ q)).2.2 p hp rfl) (F'.has p hp), F'.out, F'.nodup⟩
  by_cases hlt : i < n
  · refine W.item i _ _ _ hlt st fun T vals h₁ tk₁ hv hT hIT mid hk₁ => ?_
    obtain ⟨v1, v2, rfl⟩ := hpt i vals hv
    dsimp only
    refine W.go _ _ _ i T ⟨h₁, gs, dr, tk₁, os⟩ _ _ mid fun h₂ st₂ hk₂ => ?_
    have F₂ := keepF (h₁ := h₂) fun c o hc e => hk₂ c o hc (hk₁ c o hc e)
    have hIT₂ : h₂.IsTuple T #[v1, v2] := by
      obtain ⟨o, ho, r⟩ := hIT
      exact ⟨o, hk₂ T o (W.apart _ _ _ mid) ho, r⟩
    refine wpAny_assign_Tuple (items := #[v1, v2]) hh hIT₂ (by rw [he]; rfl) (by rw [he]; rfl) fun h₃ e₃ => ?_
    have ex : Ext h₂ h₃ := fun c oc q => e₃ c oc (Nat.ne_of_lt (Heap.lt_size q)) q
    have F₃ := F₂.ext ex
    have st₃ : St (i + 1) h₃ := W.frame _ _ _ st₂ fun c _ o e => ex c o e
    have hobj : ∀ c ∈ tr, ∃ o, h₃.get? c = some o := hex _ _ st₃
    let it : List (Addr × Obj) := tr.map fun c => (c, (h₃.get? c).getD default)
    have hit : ∀ p ∈ it, p.1 ∈ tr ∧ h₃.get? p.1 = some p.2 := fun p hp => by
      obtain ⟨c, hc, rfl⟩ := List.mem_map.mp hp
      obtain ⟨o, ho⟩ := hobj c hc
      refine ⟨hc, ?_⟩
      show h₃.get? c = some ((h₃.get? c).getD default)
      rw [ho]; rfl
    have hitm : it.map (·.1) = tr := by simp [it, List.map_map, Function.comp_def]
    have F₃' : Fx b' L h₃ m' (own' ++ it) := by
      refine ⟨F₃.ns, F₃.keep, F₃.lout, fun p hp => ?_, fun p hp => ?_, ?_⟩
      · rcases List.mem_append.mp hp with hp | hp
        · exact F₃.has p hp
        · exact (hit p hp).2
      · rcases List.mem_append.mp hp with hp | hp
        · exact F₃.out p hp
        · exact (hw _ (hit p hp).1).1
      · rw [List.map_append, hitm, ← List.cons_append]
        refine List.nodup_append.mpr ⟨F₃.nodup, hnd, fun c hc d hd => ?_⟩
        rintro rfl
        rcases List.mem_cons.mp hc with rfl | hc
        · exact (hw _ hd).2.1 rfl
        · obtain ⟨p, hp, q⟩ := List.mem_map.mp hc
          exact (hw _ hd).2.2 p hp q
    rw [he]
    show wpAny _ _ (holding [v2] (assign (.Name x px) (envX cn cs L a ccd cl) v1) >>= fun _ => holding [] (assign (.Name y py) (envX cn cs L a ccd cl) v2) >>= fun _ => pure ()) _ _ _
    refine wpAny_bind (wpAny_holding (wpAny_assign_Name (st_loc F₃' (fun h₄ F₄ => ?_) hk hx)))
    refine wpAny_bind (wpAny_holding (wpAny_assign_Name (st_loc F₄ (fun h₅ F₅ => ?_) hk hy)))
    refine wpAny_pure ?_
    refine wpAny_mono (step i v1 v2 b' m' own' h₅ _ it _ hlt hv inv eb F₅) (fun f s₃ z => ?_) fun _ _ z => z
    have go : TurnEnd gs dr os L it b' (Inv (i + 1)) s₃ → ∃ k, k < n + 1 - i ∧ ∃ h' tk b' m' own' j, s₃ = ⟨h', gs, dr, tk, os⟩ ∧ k = n + 1 - j ∧ j ≤ n ∧ St j h' ∧ Ext b b' ∧ Fx b' L h' m' own' ∧ Inv j b' m' own' ∧ (∀ a ∈ tr, b'.get? a = none ∧ a ≠ L ∧ ∀ p ∈ own', p.1 ≠ a) := by
      rintro ⟨h₆, tk₆, b₆, m₆, own₆, rfl, e₆, F₆, inv₆⟩
      have hasit : ∀ p ∈ it, h₆.get? p.1 = some p.2 := fun p hp => F₆.has p (List.mem_append_right _ hp)
      have hi0 : ∀ c ∈ tr, ∃ o, (c, o) ∈ it := fun c hc => ⟨_, List.mem_map_of_mem hc⟩
      refine ⟨n + 1 - (i + 1), by omega, h₆, tk₆, b₆, m₆, own₆, i + 1, rfl, rfl, hlt, ?_, eb.trans e₆, ?_, inv₆, fun c hc => ?_⟩
      · refine W.frame _ _ _ st₃ fun c hc o e => ?_
        by_cases hcw : c ∈ tr
        · obtain ⟨oc, hoc⟩ := hi0 c hcw
          have := (hit _ hoc).2
          dsimp only at this
          rw [e] at this
          have := Option.some.inj this
          rw [this]
          exact hasit _ hoc
        · obtain ⟨obj, hob⟩ := hfp c hc hcw
          have e1 := F₃.keep c obj (eb c obj hob)
          rw [e] at e1
          rw [Option.some.inj e1]
          exact F₆.keep c obj (e₆ c obj (eb c obj hob))
      · refine ⟨F₆.ns, F₆.keep, F₆.lout, fun p hp => F₆.has p (List.mem_append_left _ hp), fun p hp => F₆.out p (List.mem_append_left _ hp), ?_⟩
        have nd := F₆.nodup
        rw [List.map_append, ← List.cons_append] at nd
        exact (List.nodup_append.mp nd).1
      · obtain ⟨oc, hoc⟩ := hi0 c hc
        refine ⟨F₆.out _ (List.mem_append_right _ hoc), (hw c hc).2.1, fun p hp q => ?_⟩
        have nd := F₆.nodup
        rw [List.map_append, hitm, ← List.cons_append] at nd
        exact (List.nodup_append.mp nd).2.2 _ (.tail _ (List.mem_map_of_mem hp)) _ hc q
    cases f with
    | next => exact go z
    | cont => exact go z
    | brk => exact z
    | ret v => exact z
  · have : i = n := by omega
    subst this
    refine W.done _ _ _ st fun h₁ tk₁ hk₁ => ?_
    dsimp only
    exact wpAny_execs_nil (fin h₁ tk₁ b' m' own' inv eb (keepF hk₁))
/-- a for over zip of two lists that the base holds, into two locals -/
theorem for_duoX {x y : Str} {px py pt : Pos} {kk : Nat} {body : List Stmt} {b : Heap} {L a l1 l2 : Addr} {m : Str → Option Value} {own : List (Addr × Obj)} {cn : Str} {cs : Scope} {ccd : Value} {cl : List (Str × Addr)} {xs ys : List Value} {n1 n2 : Nat} {E : Value → Shared → Prop}
    (F : Fx b L hp m own) (hl1 : b.get? l1 = some (LO xs n1)) (hl2 : b.get? l2 = some (LO ys n2)) (hh : A.handled = none)
    (Inv : Nat → Heap → (Str → Option Value) → List (Addr × Obj) → Prop) (h0 : Inv 0 b m own)
    (step : ∀ i v1 v2 b₁ m₁ own₁ h₁ tk₁ it E', i < min xs.length ys.length → xs[i]? = some v1 → ys[i]? = some v2 → Inv i b₁ m₁ own₁ → Ext b b₁ → Fx b₁ L h₁ (fun z => if z = y then some v2 else if z = x then some v1 else m₁ z) (own₁ ++ it) →
      wpAny (model prog w) A (execs body (envX cn cs L a ccd cl)) (Turned gs dr os L it b₁ (Inv (i + 1)) fun f s' => R (.ok f) s') E' ⟨h₁, gs, dr, tk₁, os⟩)
    (fin : ∀ h' tk b' m' own', Inv (min xs.length ys.length) b' m' own' → Ext b b' → Fx b' L h' m' own' → R (.ok .next) ⟨h', gs, dr, tk, os⟩)
    (hk : cs.kind = .function := by with_unfolding_all rfl) (hx : (envX cn cs L a ccd cl).kindOf x = some .local := by with_unfolding_all rfl) (hy : (envX cn cs L a ccd cl).kindOf y = some .local := by with_unfolding_all rfl) :
    wpAny (model prog w) A (call (.type "zip") [.ref l1, .ref l2]) (fun e s₁ => wpAny (model prog w) A (pyIter e) (fun it s₂ => codeAny (model prog w) A (.forLoop (.Tuple [.Name x px, .Name y py] kk pt) it body [] (envX cn cs L a ccd cl)) R s₂) E s₁) E ⟨hp, gs, dr, tk₀, os⟩ := by
  have hl1' := F.keep _ _ hl1
  have hl2' := F.keep _ _ hl2
  refine call_zip_2 (isList_of hl1') (isList_of hl2') ?_
  intro h1 hz hTI hTO hi1 hi2 hsz hk1
  have above : ∀ k : Nat, b.get? (hp.objs.size + k) = none ∧ hp.objs.size + k ≠ L ∧ ∀ p ∈ own, p.1 ≠ hp.objs.size + k := fun k => by
    have hb : b.get? (hp.objs.size + k) = none := by
      cases q : b.get? (hp.objs.size + k) with
      | none => rfl
      | some o => exact absurd (Heap.lt_size (F.keep _ _ q)) (Nat.not_lt.mpr (Nat.le_add_right _ _))
    have hL := F.ns.lt
    refine ⟨hb, fun q => ?_, fun p hp q => ?_⟩
    · rw [← q] at hL; exact absurd hL (Nat.not_lt.mpr (Nat.le_add_right _ _))
    · have := Heap.lt_size (F.has p hp)
      rw [q] at this; exact absurd this (Nat.not_lt.mpr (Nat.le_add_right _ _))
  have lt1 : l1 < hp.objs.size := Heap.lt_size hl1'
  have lt2 : l2 < hp.objs.size := Heap.lt_size hl2'
  have D : ZipApart (hp.objs.size + 4) (hp.objs.size + 2) (hp.objs.size + 3) hp.objs.size (hp.objs.size + 1) l1 l2 := by
    constructor <;> (intro q; revert q lt1 lt2; generalize hp.objs.size = s; intro lt1 lt2 q; simp only [Addr] at *; omega)
  have W := WalksT.zip2 (prog := prog) (w := w) hh _ _ _ _ _ _ _ D xs.toArray ys.toArray
  have hmin : min xs.toArray.size ys.toArray.size = min xs.length ys.length := by simp
  rw [hmin] at W
  have st0 : IsZip h1 (hp.objs.size + 4) (hp.objs.size + 2) (hp.objs.size + 3) .none ∧ IsPair h1 (hp.objs.size + 2) (.ref hp.objs.size) (.ref (hp.objs.size + 1)) ∧ (∃ a b, IsPair h1 (hp.objs.size + 3) a b) ∧ h1.IsListIter hp.objs.size l1 0 ∧ h1.IsListIter (hp.objs.size + 1) l2 0 ∧ h1.IsList l1 xs.toArray ∧ h1.IsList l2 ys.toArray :=
    ⟨hz, hTI, ⟨_, _, hTO⟩, hi1, hi2, isList_of (hk1 _ _ hl1'), isList_of (hk1 _ _ hl2')⟩
  refine W.self 0 ⟨h1, gs, dr, tk₀, os⟩ _ _ st0 ?_
  refine loop_duoX (tr := [hp.objs.size + 4, hp.objs.size + 3, hp.objs.size + 0, hp.objs.size + 1, hp.objs.size + 2]) W st0 (F.ext hk1) hh (fun i vals q => ?_) (fun c hc => ?_) (fun c hc hw => ?_) (fun c hc => ?_) ?_ (fun i h st c hc => ?_) Inv h0 (fun i v1 v2 b₁ m₁ own₁ h₁ tk₁ it E' hi hv => ?_) fin hk hx hy
  · obtain ⟨x, y, _, _, e⟩ := q
    exact ⟨_, _, e⟩
  · simp only [List.mem_cons, List.not_mem_nil, or_false] at hc ⊢
    rcases hc with rfl | rfl | rfl | rfl <;> simp
  · simp only [List.mem_cons, List.not_mem_nil, or_false] at hc hw
    rcases hc with rfl | rfl | rfl | rfl | rfl | rfl | rfl
    · exact absurd (by simp) hw
    · exact absurd (by simp) hw
    · exact absurd (by simp) hw
    · exact absurd (by simp) hw
    · exact absurd (by simp) hw
    · exact ⟨_, hl1⟩
    · exact ⟨_, hl2⟩
  · simp only [List.mem_cons, List.not_mem_nil, or_false] at hc
    rcases hc with rfl | rfl | rfl | rfl | rfl <;> exact above _
  · simp
  · obtain ⟨z1, z2, ⟨_, _, z3⟩, ⟨o4, z4, _⟩, ⟨o5, z5, _⟩, _⟩ := st
    simp only [List.mem_cons, List.not_mem_nil, or_false] at hc
    rcases hc with rfl | rfl | rfl | rfl | rfl
    · exact ⟨_, z1⟩
    · exact ⟨_, z3⟩
    · exact ⟨_, z4⟩
    · exact ⟨_, z5⟩
    · exact ⟨_, z2⟩
  · obtain ⟨x, y, e1, e2, e3⟩ := hv
    have e4 : v1 = x ∧ v2 = y := by simpa using e3
    obtain ⟨rfl, rfl⟩ := e4
    exact step i v1 v2 b₁ m₁ own₁ h₁ tk₁ it E' hi (by simpa using e1) (by simpa using e2)
end
/-- what _law_order says -/
def ordN : Ordering → Int
  | .lt => -1
  | .eq => 0
  | .gt => 1
theorem ordI_step {ns ms : List Int} {i : Nat} {a c : Int} (h1 : ns[i]? = some a) (h2 : ms[i]? = some c) : ordI (ns.drop i) (ms.drop i) = if a == c then ordI (ns.drop (i + 1)) (ms.drop (i + 1)) else if a < c then .lt else .gt := by
  obtain ⟨l1, rfl⟩ := List.getElem?_eq_some_iff.mp h1
  obtain ⟨l2, rfl⟩ := List.getElem?_eq_some_iff.mp h2
  rw [List.drop_eq_getElem_cons l1, List.drop_eq_getElem_cons l2, ordI]
theorem ordI_end {ns ms : List Int} : ordI (ns.drop (min ns.length ms.length)) (ms.drop (min ns.length ms.length)) = if ns.length = ms.length then .eq else if ns.length < ms.length then .lt else .gt := by
  rcases Nat.lt_trichotomy ns.length ms.length with q | q | q
  · rw [if_neg (by omega), if_pos q, Nat.min_eq_left (by omega), List.drop_length, List.drop_eq_getElem_cons q, ordI]
  · rw [if_pos q, Nat.min_eq_left (by omega), List.drop_length, q, List.drop_length, ordI]
  · rw [if_neg (by omega), if_neg (by omega), Nat.min_eq_right (by omega), List.drop_length, List.drop_eq_getElem_cons q, ordI]
section
variable {prog : Program} {w : World} {A : Around} {E : Value → Shared → Prop} {hp : Heap} {gs : Array GenState} {dr : Drawn} {tk : Nat} {os : OsState} {mg mb : Str → Option Value} {Q : Value → Shared → Prop}
set_option maxHeartbeats 2000000 in
theorem order_spec {l1 l2 : Addr} {n1 n2 : Nat} {xs ys : List Value} {ns ms : List Int} (T : Tp (KK w) mg mb hp) (h1 : hp.get? l1 = some (LO xs n1)) (h2 : hp.get? l2 = some (LO ys n2)) (hi : IntsAre xs ns) (hj : IntsAre ys ms) (hz : ns.length ≤ 1000) (hz2 : ms.length ≤ 1000) (hroom : A.depth < 370) (hh : A.handled = none)
    (h : ∀ h' tk' t, Ext hp h' → Q (.int (ordN (ordI ns ms)) t) ⟨h', gs, dr, tk', os⟩) : wpAny (model prog w) A (call (.ref g_law_order) [.ref l1, .ref l2]) Q E ⟨hp, gs, dr, tk, os⟩ := by
  have hl1 := hi.length
  have hl2 := hj.length
  refine wpAny_call ?_
  refine call_fx [] (binds := [(Str.ofString "left", .ref l1), (Str.ofString "right", .ref l2)]) (by walk_at "room") (T.X _ _ (lk g_law_order (by kernel_rfl))) (by with_unfolding_all rfl) T.nolimit (codeRec_of T.X (by kernel_rfl)) (BindsTo.of_eq (by with_unfolding_all rfl)) (locs (by with_unfolding_all rfl)) (fun _ q => nomatch q) List.nodup_nil ?_ (by decide +kernel)
  intro L h₁ tk F
  replace F : Fx hp L h₁ _ [] := F
  walk_at "e"
  refine wpAny_For ?_
  walk_at "r"
  refine for_duoX F h1 h2 hh (fun i b' m' own' => b' = hp ∧ own' = [] ∧ m' (Str.ofString "left") = some (.ref l1) ∧ m' (Str.ofString "right") = some (.ref l2) ∧ ordI (ns.drop i) (ms.drop i) = ordI ns ms) ⟨rfl, rfl, by walk_at "look", by walk_at "look", by rw [List.drop_zero, List.drop_zero]⟩ ?_ ?_
  · clear F
    rintro i v1 v2 b₁ m₁ own₁ h₂ tk₂ it E' hlt hv1 hv2 ⟨rfl, rfl, q1, q2, q3⟩ _ F
    rw [hl1, hl2] at hlt
    obtain ⟨t1, ht1⟩ := hi.get i ns[i] (List.getElem?_eq_getElem (by omega))
    obtain ⟨t2, ht2⟩ := hj.get i ms[i] (List.getElem?_eq_getElem (by omega))
    rw [ht1] at hv1; cases hv1
    rw [ht2] at hv2; cases hv2
    have hs := ordI_step (ns := ns) (ms := ms) (i := i) (List.getElem?_eq_getElem (by omega)) (List.getElem?_eq_getElem (by omega))
    rw [q3] at hs
    generalize ns[i] = a at F hs ht1
    generalize ms[i] = c at F hs ht2
    walk_at "r"
    by_cases hac : a = c
    · subst hac
      rw [if_neg (by simp)]
      walk_at "r"
      rw [beq_self_eq_true, if_pos rfl] at hs
      exact ⟨_, _, b₁, _, [], rfl, .rfl', F, rfl, rfl, by walk_at "look", by walk_at "look", hs.symm⟩
    · rw [if_pos (by simp [hac])]
      walk_at "r"
      rw [if_neg (by simpa using hac)] at hs
      refine IfExp_ ?_
      walk_at "r"
      by_cases hlt2 : a < c
      · rw [decide_eq_true hlt2, if_pos rfl]
        walk_at "r"
        rw [if_pos hlt2] at hs
        rw [hs] at h
        exact h _ _ _ F.keep
      · rw [decide_eq_false hlt2, if_neg (by decide)]
        walk_at "r"
        rw [if_neg hlt2] at hs
        rw [hs] at h
        exact h _ _ _ F.keep
  · clear F
    rintro h₂ tk₂ b₁ m₁ own₁ ⟨rfl, rfl, q1, q2, q3⟩ _ F
    rw [hl1, hl2, ordI_end] at q3
    walk_at "r"
    refine lc_len (F.keep _ _ h1) (by omega) ?_
    intro t3 tk3
    walk_at "r"
    refine lc_len (F.keep _ _ h2) (by omega) ?_
    intro t4 tk4
    walk_at "r"
    by_cases he : ns.length = ms.length
    · rw [if_pos he] at q3
      rw [if_pos (by simp; omega)]
      walk_at "r"
      rw [← q3] at h
      exact h _ _ _ F.keep
    · rw [if_neg he] at q3
      rw [if_neg (by simp; omega)]
      walk_at "r"
      refine IfExp_ ?_
      walk_at "r"
      refine lc_len (F.keep _ _ h1) (by omega) ?_
      intro t5 tk5
      walk_at "r"
      refine lc_len (F.keep _ _ h2) (by omega) ?_
      intro t6 tk6
      walk_at "r"
      by_cases hlt2 : ns.length < ms.length
      · rw [if_pos (by simp; omega)]
        walk_at "r"
        rw [if_pos hlt2] at q3
        rw [← q3] at h
        exact h _ _ _ F.keep
      · rw [if_neg (by simp; omega)]
        walk_at "r"
        rw [if_neg hlt2] at q3
        rw [← q3] at h
        exact h _ _ _ F.keep
set_option maxHeartbeats 2000000 in
theorem same_spec {l1 l2 : Addr} {n1 n2 : Nat} {bs : List Bool} (T : Tp (KK w) mg mb hp) (h1 : hp.get? l1 = some (LO (bs.map .bool) n1)) (h2 : hp.get? l2 = some (LO (bs.map .bool) n2)) (hroom : A.depth < 370) (hh : A.handled = none)
    (h : ∀ h' tk', Ext hp h' → Q (.bool true) ⟨h', gs, dr, tk', os⟩) : wpAny (model prog w) A (call (.ref g_law_same) [.ref l1, .ref l2]) Q E ⟨hp, gs, dr, tk, os⟩ := by
  refine wpAny_call ?_
  refine call_fx [] (binds := [(Str.ofString "told", .ref l1), (Str.ofString "due", .ref l2)]) (by walk_at "room") (T.X _ _ (lk g_law_same (by kernel_rfl))) (by with_unfolding_all rfl) T.nolimit (codeRec_of T.X (by kernel_rfl)) (BindsTo.of_eq (by with_unfolding_all rfl)) (locs (by with_unfolding_all rfl)) (fun _ q => nomatch q) List.nodup_nil ?_ (by decide +kernel)
  intro L h₁ tk F
  replace F : Fx hp L h₁ _ [] := F
  walk_at "e"
  refine wpAny_For ?_
  walk_at "r"
  refine for_duoX F h1 h2 hh (fun _ b' _ own' => b' = hp ∧ own' = []) ⟨rfl, rfl⟩ ?_ ?_
  · clear F
    rintro i v1 v2 b₁ m₁ own₁ h₂ tk₂ it E' hlt hv1 hv2 ⟨rfl, rfl⟩ _ F
    rw [hv1] at hv2
    cases hv2
    rw [List.getElem?_map] at hv1
    obtain ⟨c, _, rfl⟩ := Option.map_eq_some_iff.mp hv1
    walk_at "r"
    refine wpAny_isNot_self rfl ?_
    walk_at "r"
    rw [if_neg (by decide)]
    walk_at "r"
    exact ⟨_, _, b₁, _, [], rfl, .rfl', F, rfl, rfl⟩
  · clear F
    rintro h₂ tk₂ b₁ m₁ own₁ ⟨rfl, rfl⟩ _ F
    walk_at "r"
    exact h _ _ F.keep
end
section
variable {prog : Program} {w : World} {A : Around} {E : Value → Shared → Prop} {hp : Heap} {gs : Array GenState} {dr : Drawn} {tk : Nat} {os : OsState} {mg mb : Str → Option Value} {Q : Value → Shared → Prop}
/-- the six signs of a and b tell the order o -/
def Told (prog : Program) (w : World) (gs : Array GenState) (dr : Drawn) (os : OsState) (hp : Heap) (a b : Value) (o : Ordering) : Prop :=
  ∀ op ∈ [CmpOp.Eq, .NotEq, .Lt, .LtE, .Gt, .GtE], ∀ (A : Around) (E Q : Value → Shared → Prop) h₁ tk, A.depth < 350 → A.units < 700 → A.handled = none → Ext hp h₁ → (∀ h' tk', Ext h₁ h' → Q (.bool (sayO op o)) ⟨h', gs, dr, tk', os⟩) → wpAny (model prog w) A (compareOp op a b) Q E ⟨h₁, gs, dr, tk, os⟩
def sixO (o : Ordering) : List Bool := [sayO .Eq o, sayO .NotEq o, sayO .Lt o, sayO .LtE o, sayO .Gt o, sayO .GtE o]
set_option maxHeartbeats 2000000 in
theorem signs_spec {a b : Value} {o : Ordering} (T : Tp (KK w) mg mb hp) (S : Told prog w gs dr os hp a b o) (hroom : A.depth < 340) (hu : A.units < 600) (hh : A.handled = none)
    (hq : ∀ D h' tk', Ext hp h' → hp.get? D = none → h'.get? D = some (LO ((sixO o).map .bool) 0) → Q (.ref D) ⟨h', gs, dr, tk', os⟩) : wpAny (model prog w) A (call (.ref g_law_signs) [a, b]) Q E ⟨hp, gs, dr, tk, os⟩ := by
  refine wpAny_call ?_
  refine call_fx [] (binds := [(Str.ofString "left", a), (Str.ofString "right", b)]) (by walk_at "room") (T.X _ _ (lk g_law_signs (by kernel_rfl))) (by with_unfolding_all rfl) T.nolimit (codeRec_of T.X (by kernel_rfl)) (BindsTo.of_eq (by with_unfolding_all rfl)) (locs (by with_unfolding_all rfl)) (fun _ q => nomatch q) List.nodup_nil ?_ (by decide +kernel)
  intro L h₁ tk F
  replace F : Fx hp L h₁ _ [] := F
  walk_at "r"
  refine S _ (by simp) _ _ _ _ _ (by walk_at "room") (by simp only [Around.deeper]; omega) hh F.keep ?_
  intro h2 tk2 e2
  replace F := F.ext e2
  walk_at "r"
  refine S _ (by simp) _ _ _ _ _ (by walk_at "room") (by simp only [Around.deeper]; omega) hh F.keep ?_
  intro h3 tk3 e3
  replace F := F.ext e3
  walk_at "r"
  refine S _ (by simp) _ _ _ _ _ (by walk_at "room") (by simp only [Around.deeper]; omega) hh F.keep ?_
  intro h4 tk4 e4
  replace F := F.ext e4
  walk_at "r"
  refine S _ (by simp) _ _ _ _ _ (by walk_at "room") (by simp only [Around.deeper]; omega) hh F.keep ?_
  intro h5 tk5 e5
  replace F := F.ext e5
  walk_at "r"
  refine S _ (by simp) _ _ _ _ _ (by walk_at "room") (by simp only [Around.deeper]; omega) hh F.keep ?_
  intro h6 tk6 e6
  replace F := F.ext e6
  walk_at "r"
  refine S _ (by simp) _ _ _ _ _ (by walk_at "room") (by simp only [Around.deeper]; omega) hh F.keep ?_
  intro h7 tk7 e7
  replace F := F.ext e7
  walk_at "r"
  refine nl F ?_ (by simp)
  clear F; intro D h8 F e8
  walk_at "r"
  exact hq D _ _ F.keep (F.out _ (.head _)) F.head
set_option maxHeartbeats 4000000 in
theorem changed_spec {R : Addr} {nR : Nat} {xs : List Value} {ns : List Int} {k : Int} {t : Tok} (T : Tp (KK w) mg mb hp) (hR : hp.get? R = some (LO xs nR)) (hi : IntsAre xs ns) (hz : ns.length ≤ 1000) (hroom : A.depth < 340) (hh : A.handled = none)
    (h : ∀ D n ys ms h' tk', Ext hp h' → hp.get? D = none → h'.get? D = some (LO ys n) → IntsAre ys ms → ms.length ≤ 2 * ns.length + 1 → Q (.ref D) ⟨h', gs, dr, tk', os⟩) : wpAny (model prog w) A (call (.ref g_law_changed) [.ref R, .int k t]) Q E ⟨hp, gs, dr, tk, os⟩ := by
  have hl1 := hi.length
  have cutI : ∀ lo hi', ∃ ms, IntsAre (cutL xs lo hi') ms ∧ ms.length ≤ ns.length := fun lo hi' => ⟨_, hi.pick lo hi' none, by
    have h1 := (hi.pick lo hi' none).length
    have h2 := cutL_length xs lo hi'
    have h3 : (cutL xs lo hi').length = (pickNums ns lo hi' none).length := h1
    omega⟩
  refine wpAny_call ?_
  refine call_fx [] (binds := [(Str.ofString "row", .ref R), (Str.ofString "number", .int k t)]) (by walk_at "room") (T.X _ _ (lk g_law_changed (by kernel_rfl))) (by with_unfolding_all rfl) T.nolimit (codeRec_of T.X (by kernel_rfl)) (BindsTo.of_eq (by with_unfolding_all rfl)) (locs (by with_unfolding_all rfl)) (fun _ q => nomatch q) List.nodup_nil ?_ (by decide +kernel)
  intro L h₁ tk F
  replace F : Fx hp L h₁ _ [] := F
  walk_at "r"
  refine x_mod (by decide) ?_
  walk_at "r"
  refine x_fdiv (by decide) (by decide) ?_
  walk_at "r"
  refine lc_len (F.keep _ _ hR) (by omega) ?_
  intro t2 tk2
  walk_at "r"
  by_cases c0 : k.fmod 5 = 0
  · rw [if_pos (by simpa using c0)]
    walk_at "r"
    refine cut_list F (F.keep _ _ hR) (by omega) .none .none ?_
    clear F; intro D h3 F _
    obtain ⟨ms, hm, hl⟩ := cutI none none
    walk_at "r"
    exact h D _ _ ms _ _ F.keep (F.out _ (.head _)) F.head hm (by omega)
  rw [if_neg (by simpa using c0)]
  walk_at "r"
  by_cases c3 : k.fmod 5 = 3
  · rw [if_pos (by simpa using c3)]
    walk_at "r"
    refine x_mod (by omega) ?_
    walk_at "r"
    refine cut_list F (F.keep _ _ hR) (by omega) .none (.int _ _) ?_
    clear F; intro D h3 F _
    obtain ⟨ms, hm, hl⟩ := cutI none (some ((k.fdiv 5).fmod ((xs.length : Int) + 1)))
    walk_at "r"
    exact h D _ _ ms _ _ F.keep (F.out _ (.head _)) F.head hm (by omega)
  rw [if_neg (by simpa using c3)]
  walk_at "r"
  by_cases c4 : k.fmod 5 = 4
  · rw [if_pos (by simpa using c4)]
    walk_at "r"
    rw [if_pos rfl]
    walk_at "r"
    refine x_mod (by decide) ?_
    walk_at "r"
    refine nl F ?_ (by simp)
    clear F; intro D3 h3 F _
    refine lc_add F (F.keep _ _ hR) F.head (by simp; omega) ?_
    clear F; intro D h4 F _
    walk_at "r"
    exact h D _ _ _ _ _ F.keep (F.out _ (.head _)) F.head (hi.append (.cons _ _ .nil)) (by simp; omega)
  rw [if_neg (by simpa using c4)]
  walk_at "r"
  by_cases cz : ns.length = 0
  · rw [show ((xs.length : Int) == 0) = true from beq_iff_eq.mpr (by omega)]
    rw [if_pos rfl, if_pos rfl]
    walk_at "r"
    refine x_mod (by decide) ?_
    walk_at "r"
    refine nl F ?_ (by simp)
    clear F; intro D3 h3 F _
    refine lc_add F (F.keep _ _ hR) F.head (by simp; omega) ?_
    clear F; intro D h4 F _
    walk_at "r"
    exact h D _ _ _ _ _ F.keep (F.out _ (.head _)) F.head (hi.append (.cons _ _ .nil)) (by simp; omega)
  rw [show ((xs.length : Int) == 0) = false from beq_eq_false_iff_ne.mpr (by omega)]
  rw [if_neg (by decide)]
  walk_at "r"
  rw [if_neg (by decide)]
  walk_at "r"
  refine x_mod (by omega) ?_
  walk_at "r"
  refine x_fdiv (by omega) (by omega) ?_
  walk_at "r"
  refine x_mod (by decide) ?_
  walk_at "r"
  obtain ⟨p, hp0, hp1⟩ : ∃ p : Nat, (k.fdiv 5).fmod (xs.length : Int) = p ∧ p < ns.length := by
    have q1 := Int.fmod_nonneg_of_pos (k.fdiv 5) (show (0 : Int) < xs.length by omega)
    have q2 := Int.fmod_lt_of_pos (k.fdiv 5) (show (0 : Int) < xs.length by omega)
    exact ⟨((k.fdiv 5).fmod (xs.length : Int)).toNat, (Int.toNat_of_nonneg q1).symm, by omega⟩
  rw [hp0] at F ⊢
  obtain ⟨v, hv⟩ := hi.get p ns[p] (List.getElem?_eq_getElem hp1)
  refine cut_list F (F.keep _ _ hR) (by omega) .none (.int _ _) ?_
  clear F; intro D3 h3 F _
  walk_at "r"
  refine wpAny_mono (Q := fun v' s' => ∃ z t' tk', v' = .int z t' ∧ s' = ⟨h3, gs, dr, tk', os⟩) ?_ ?_ fun _ _ z => z
  · refine IfExp_ ?_
    walk_at "r"
    by_cases c1 : k.fmod 5 = 1
    · rw [if_pos (by simpa using c1)]
      walk_at "r"
      refine sub_list (F.keep _ _ hR) (by omega) (by omega) (by rw [Int.toNat_natCast]; exact hv) ?_
      walk_at "r"
      exact ⟨_, _, _, rfl, rfl⟩
    · rw [if_neg (by simpa using c1)]
      walk_at "r"
      refine sub_list (F.keep _ _ hR) (by omega) (by omega) (by rw [Int.toNat_natCast]; exact hv) ?_
      walk_at "r"
      exact ⟨_, _, _, rfl, rfl⟩
  rintro v' s' ⟨z, t', tk', rfl, rfl⟩
  walk_at "r"
  refine nl F ?_ (by simp)
  clear F; intro D4 h4 F _
  have q1 := cutL_length xs none (some (p : Int))
  refine lc_add F F.head2 F.head (by simp only [List.length_append, List.length_cons, List.length_nil]; omega) ?_
  clear F; intro D5 h5 F _
  walk_at "r"
  refine cut_list F (F.keep _ _ hR) (by omega) (.int _ _) .none ?_
  clear F; intro D6 h6 F _
  walk_at "r"
  have q2 := cutL_length xs (some ((p : Int) + 1)) none
  refine lc_add F F.head2 F.head (by simp only [List.length_append, List.length_cons, List.length_nil]; omega) ?_
  clear F; intro D h7 F _
  walk_at "r"
  obtain ⟨m1, hm1, lm1⟩ := cutI none (some (p : Int))
  obtain ⟨m2, hm2, lm2⟩ := cutI (some ((p : Int) + 1)) none
  exact h D _ _ (m1 ++ [z] ++ m2) _ _ F.keep (F.out _ (.head _)) F.head ((hm1.append (.cons z t' .nil)).append hm2) (by simp only [List.length_append, List.length_cons, List.length_nil]; omega)
end
namespace Rz
theorem te1 : isSubtype (.type "TypeError") (.type "BaseException") = pure true := by rw [isSubtype_type]; kernel_rfl
theorem te2 : isSubtype (.type ((Manifest.find? "TypeError").elim "type" fun x => x.metatype)) (.type "tuple") = pure false := by rw [find?_eq_fast, isSubtype_type]; kernel_rfl
theorem te3 : isSubtype (.type "TypeError") (.type "TypeError") = pure true := by rw [isSubtype_type]; kernel_rfl
end Rz
theorem Fx.weaken {b b' h : Heap} {L : Addr} {m : Str → Option Value} {own : List (Addr × Obj)} (F : Fx b L h m own) (e : Ext b' b) : Fx b' L h m own :=
  ⟨F.ns, e.trans F.keep, e.none F.lout, F.has, fun p hp => e.none (F.out p hp), F.nodup⟩
section
variable {prog : Program} {w : World} {A : Around} {E : Value → Shared → Prop} {hp : Heap} {gs : Array GenState} {dr : Drawn} {tk : Nat} {os : OsState} {mg mb : Str → Option Value} {Q : Value → Shared → Prop}
/-- the four signs of order are refused for a and b -/
def Refuse (prog : Program) (w : World) (gs : Array GenState) (dr : Drawn) (os : OsState) (base : Heap) (a b : Value) : Prop :=
  ∀ op ∈ [CmpOp.Lt, .LtE, .Gt, .GtE], ∀ (A : Around) (E Q : Value → Shared → Prop) h₁ tk outer, A.depth < 350 → A.units < 700 → A.handled = none → A.frames = some outer → Ext base h₁ → h₁.FunFrames base outer →
    (∀ e h' tk', Thrown base h₁ outer "TypeError" e h' → E (.ref e) ⟨h', gs, dr, tk', os⟩) → wpAny (model prog w) A (compareOp op a b) Q E ⟨h₁, gs, dr, tk, os⟩
set_option maxHeartbeats 4000000 in
theorem asked_spec {base : Heap} {outer : List Env} {a b : Value} {k : Int} {t : Tok} (T : Tp (KK w) mg mb base) (R : Refuse prog w gs dr os base a b)
    (hb : Ext base hp) (hfr : A.frames = some outer) (hff : hp.FunFrames base outer) (hroom : A.depth < 340) (hu : A.units < 600) (hh : A.handled = none)
    (h : ∀ h' tk' u, Ext base h' → hp.UpToSlots h' → Q (.str (Str.ofString "refused") u) ⟨h', gs, dr, tk', os⟩) :
    wpAny (model prog w) A (call (.ref g_law_asked) [.int k t, a, b]) Q E ⟨hp, gs, dr, tk, os⟩ := by
  have T0 := T.up hb
  refine wpAny_call ?_
  refine call_fx [] (binds := [(Str.ofString "kind", .int k t), (Str.ofString "left", a), (Str.ofString "right", b)]) (by walk_at "room") (T0.X _ _ (lk g_law_asked (by kernel_rfl))) (by with_unfolding_all rfl) T0.nolimit (codeRec_of T0.X (by kernel_rfl)) (BindsTo.of_eq (by with_unfolding_all rfl)) (locs (by with_unfolding_all rfl)) (fun _ q => nomatch q) List.nodup_nil ?_ (by decide +kernel)
  intro L h₁ tk F
  replace F : Fx hp L h₁ _ [] := F
  have e1 : Ext hp h₁ := F.keep
  replace F := F.weaken hb
  refine s_cons ?_
  refine wpAny_Try_except ?_
  walk_at "r"
  by_cases c0 : k = 0
  · rw [if_pos (by simpa using c0)]
    walk_at "r"
    refine R .Lt (by simp) _ _ _ _ _ (envX _ _ _ _ _ _ :: outer) (by walk_at "room") (by simp only [Around.deeper]; omega) hh (Around.frames_deeper hfr) F.keep (frames_of F (by with_unfolding_all decide) F.lout (hff.of_keeps fun c o hc _ => ⟨o, e1 c o hc, rfl⟩)) fun e h' tk' thr => ?_
    refine caught F T .rfl' (fun _ q => nomatch q) (Around.frames_deeper hfr) thr (by kernel_rfl) (by kernel_rfl) (by decide) Rz.te1 Rz.te2 Rz.te3 ?_
    intro h'' tk'' E'' F2 ek u2 _
    replace F := F2
    walk_at "r"
    refine x_str ?_
    walk_at "r"
    exact h _ _ _ ek ((Heap.UpToSlots.of_keeps e1).trans u2)
  rw [if_neg (by simpa using c0)]
  walk_at "r"
  by_cases c1 : k = 1
  · rw [if_pos (by simpa using c1)]
    walk_at "r"
    refine R .LtE (by simp) _ _ _ _ _ (envX _ _ _ _ _ _ :: outer) (by walk_at "room") (by simp only [Around.deeper]; omega) hh (Around.frames_deeper hfr) F.keep (frames_of F (by with_unfolding_all decide) F.lout (hff.of_keeps fun c o hc _ => ⟨o, e1 c o hc, rfl⟩)) fun e h' tk' thr => ?_
    refine caught F T .rfl' (fun _ q => nomatch q) (Around.frames_deeper hfr) thr (by kernel_rfl) (by kernel_rfl) (by decide) Rz.te1 Rz.te2 Rz.te3 ?_
    intro h'' tk'' E'' F2 ek u2 _
    replace F := F2
    walk_at "r"
    refine x_str ?_
    walk_at "r"
    exact h _ _ _ ek ((Heap.UpToSlots.of_keeps e1).trans u2)
  rw [if_neg (by simpa using c1)]
  walk_at "r"
  by_cases c2 : k = 2
  · rw [if_pos (by simpa using c2)]
    walk_at "r"
    refine R .Gt (by simp) _ _ _ _ _ (envX _ _ _ _ _ _ :: outer) (by walk_at "room") (by simp only [Around.deeper]; omega) hh (Around.frames_deeper hfr) F.keep (frames_of F (by with_unfolding_all decide) F.lout (hff.of_keeps fun c o hc _ => ⟨o, e1 c o hc, rfl⟩)) fun e h' tk' thr => ?_
    refine caught F T .rfl' (fun _ q => nomatch q) (Around.frames_deeper hfr) thr (by kernel_rfl) (by kernel_rfl) (by decide) Rz.te1 Rz.te2 Rz.te3 ?_
    intro h'' tk'' E'' F2 ek u2 _
    replace F := F2
    walk_at "r"
    refine x_str ?_
    walk_at "r"
    exact h _ _ _ ek ((Heap.UpToSlots.of_keeps e1).trans u2)
  rw [if_neg (by simpa using c2)]
  walk_at "r"
  refine R .GtE (by simp) _ _ _ _ _ (envX _ _ _ _ _ _ :: outer) (by walk_at "room") (by simp only [Around.deeper]; omega) hh (Around.frames_deeper hfr) F.keep (frames_of F (by with_unfolding_all decide) F.lout (hff.of_keeps fun c o hc _ => ⟨o, e1 c o hc, rfl⟩)) fun e h' tk' thr => ?_
  refine caught F T .rfl' (fun _ q => nomatch q) (Around.frames_deeper hfr) thr (by kernel_rfl) (by kernel_rfl) (by decide) Rz.te1 Rz.te2 Rz.te3 ?_
  intro h'' tk'' E'' F2 ek u2 _
  replace F := F2
  walk_at "r"
  refine x_str ?_
  walk_at "r"
  exact h _ _ _ ek ((Heap.UpToSlots.of_keeps e1).trans u2)
end
section
variable {prog : Program} {w : World} {A : Around} {E : Value → Shared → Prop} {hp : Heap} {gs : Array GenState} {dr : Drawn} {tk : Nat} {os : OsState} {Q : Value → Shared → Prop}
/-- two rows of two rows of numbers, alike -/
theorem ne_alike {a b a1 a2 b1 b2 : Addr} {n n' n1 n2 m1 m2 : Nat} {xs ys xs' ys' : List Value} {ns ms : List Int} (hA : hp.get? a = some (LO [.ref a1, .ref a2] n)) (hB : hp.get? b = some (LO [.ref b1, .ref b2] n'))
    (h1 : hp.get? a1 = some (LO xs n1)) (h2 : hp.get? a2 = some (LO ys n2)) (k1 : hp.get? b1 = some (LO xs' m1)) (k2 : hp.get? b2 = some (LO ys' m2)) (i1 : IntsAre xs ns) (i2 : IntsAre ys ms) (j1 : IntsAre xs' ns) (j2 : IntsAre ys' ms)
    (hu : A.units + 64 < cLine) (h : Q (.bool false) ⟨hp, gs, dr, tk, os⟩) : wpAny (model prog w) A (compareOp .NotEq (.ref a) (.ref b)) Q E ⟨hp, gs, dr, tk, os⟩ := by
  have rd : ∀ {p q1 q2 : Addr} {c c1 c2 : Nat} {us vs : List Value}, hp.get? p = some (LO [.ref q1, .ref q2] c) → hp.get? q1 = some (LO us c1) → hp.get? q2 = some (LO vs c2) → IntsAre us ns → IntsAre vs ms → ∃ as, Reads hp (.ref p) (.list [.list (ns.map PyData.int), .list (ms.map PyData.int)]) as := fun hp' g1 g2 u1 u2 =>
    ⟨_, reads_list_at hp' rfl rfl (.cons (reads_newData (isList_of g1) (ke_carried u1)) (.cons (reads_newData (isList_of g2) (ke_carried u2)) .nil))⟩
  obtain ⟨as, ra⟩ := rd hA h1 h2 i1 i2
  obtain ⟨bs, rb⟩ := rd hB k1 k2 j1 j2
  have sh : SeqAt.shaped (.list [.list (ns.map PyData.int), .list (ms.map PyData.int)]) = true := by
    simp [SeqAt.shaped, PyData.canLay0, PyData.canLayAll0, PyData.depth, PyData.depthAll, ke_canLayAll0, ke_depthAll]
  have hs : (Spec.Shape.list (.list .int)).has (.list [.list (ns.map PyData.int), .list (ms.map PyData.int)]) = true := by
    have e : ∀ k : List Int, (Spec.Shape.list .int).has (.list (k.map PyData.int)) = true := fun k => list_map_has fun _ => rfl
    exact list_has fun x hx => by
      simp only [List.mem_cons, List.not_mem_nil, or_false] at hx
      rcases hx with rfl | rfl <;> exact e _
  refine ne_dataH_same ra rb sh sh hu (SeqAt.noMix_of_shape (.list (.list .int)) rfl _ _ hs hs) ?_
  have e : PySem.Spec.same (.list [.list (ns.map PyData.int), .list (ms.map PyData.int)]) (.list [.list (ns.map PyData.int), .list (ms.map PyData.int)]) = true := by
    simp [PySem.Spec.same, PySem.Spec.sameAll, ke_sameAll]
  rw [e]
  exact h
end
/-- what a table of inner code says of another place -/
theorem among_snoc {pos q : Pos} {c v : Value} : ∀ (l : List Value), TriplesOk l → codeAmong q (l ++ [rawInt pos.line, rawInt pos.col, c]) = some v → codeAmong q l = some v ∨ v = c := by
  intro l h
  fun_induction TriplesOk l with
  | case1 =>
    intro e
    simp only [List.nil_append, codeAmong, rawInt] at e
    split at e
    · exact .inr (Option.some.inj e).symm
    · exact absurd e (by simp)
  | case2 a t b u x rest ih =>
    intro e
    simp only [List.cons_append, codeAmong] at e ⊢
    split at e
    · rename_i hc; rw [if_pos hc]; exact .inl e
    · rename_i hc; rw [if_neg hc]; exact ih h e
  | case3 l h1 h2 => exact h.elim
/-- all that a table of inner code holds is code of the one name -/
def Tabd (b : Heap) (q : Str) (ps : Array Value) : Prop := TriplesOk ps.toList ∧ ∀ pos c, codeAmong pos ps.toList = some c → b.CodeRec c q
theorem Tabd.up {b b' : Heap} {q : Str} {ps : Array Value} (t : Tabd b q ps) (e : Ext b b') : Tabd b' q ps := ⟨t.1, fun pos c h => (t.2 pos c h).keeps e⟩
theorem Tabd.nil {b : Heap} {q : Str} : Tabd b q #[] := ⟨trivial, fun _ _ h => by simp [codeAmong] at h⟩
/-- a lambda's object -/
abbrev LamO (qual : Str) (params : Arguments) (body : Expr) (scope : Scope) (pm cdv ctv : Value) : Obj := { cls := .type "function", data := .func (kla_fn "<lambda>" qual params body scope [] pm cdv ctv) }
section
variable {prog : Program} {w : World} {A : Around} {E : Value → Shared → Prop} {hp b : Heap} {gs : Array GenState} {dr : Drawn} {tk : Nat} {os : OsState} {Q : Value → Shared → Prop} {K : Frag} {mg mb : Str → Option Value} {L a c P : Addr} {m : Str → Option Value} {own : List (Addr × Obj)} {cn : Str} {cs : Scope} {cl : List (Str × Addr)}
  {params : Arguments} {body : Expr} {scope : Scope} {pos : Pos} {ps : Array Value}
theorem BuiltinsAt.keeps' {h h' : Heap} {P : Addr} (x : h.BuiltinsAt mg P) (k : ∀ b o, b ≠ P → h.get? b = some o → h'.get? b = some o) : h'.BuiltinsAt mg P :=
  let ⟨bm, o, a1, a2, a3, a4, a5, r⟩ := x; ⟨bm, o, a1, a2, a3, a4, k _ _ a4 a5, r⟩
set_option maxHeartbeats 2000000 in
theorem lam_made {q : Str} (hq : (envX cn cs L a (.ref c) cl).qual ++ "<lambda>" = q) (F : Fx b L hp m ((P, tabObj ps) :: own)) (T : Tp K mg mb b) (C : CodeHd b c P) (B : b.BuiltinsAt mg P) (hgP : mainGlobals ≠ P) (D : Tabd b q ps)
    (h : ∀ f cd ps' h' tk' b' pm ctv, Ext b b' → Fx b' L h' m ((f, LamO q params body scope pm cd ctv) :: (P, tabObj ps') :: own) → Tabd b' q ps' → b'.CodeRec cd q → Q (.ref f) ⟨h', gs, dr, tk', os⟩)
    (hfree : closureFor scope (envX cn cs L a (.ref c) cl) = pure [] := by with_unfolding_all rfl) (hdef : defaultsOf params (envX cn cs L a (.ref c) cl) = ([], []) := by with_unfolding_all rfl) :
    wpAny (model prog w) A (eval (.Lambda params body scope pos) (envX cn cs L a (.ref c) cl)) Q E ⟨hp, gs, dr, tk, os⟩ := by
  refine kla_eval hdef ?_
  rw [hq]
  have hP := F.head
  have hnP : ∀ c' o, b.get? c' = some o → c' ≠ P := fun c' o e q => by have := F.out _ (.head _); rw [q] at e; rw [e] at this; cases this
  cases hc : codeAmong pos ps.toList with
  | some cv =>
    have rec' := D.2 _ _ hc
    refine kla_makeFunctionHit hfree rfl (T.g.keeps F.keep) rfl (C.keeps F.keep) hP D.1 hc (BuiltinsAt.keeps' B fun b' o _ e => F.keep _ _ e) fun ctv h' tk' hk hsz => ?_
    have F' := (F.ext hk).push (LamO q params body scope ((mg "__name__").getD .none) cv ctv)
    exact h _ cv ps _ _ b _ _ .rfl' F' D rec'
  | none =>
    refine kla_makeFunction hfree rfl (T.g.keeps F.keep) rfl (C.keeps F.keep) hP D.1 hc hgP (BuiltinsAt.keeps' B fun b' o _ e => F.keep _ _ e) fun c' ctv h' tk' hx hge hlt hrec hP' => ?_
    have F1 : Fx b L h' m ((P, tabObj (ps ++ #[rawInt pos.line, rawInt pos.col, .ref c'])) :: own) := F.turn (fun c oc n e => hx c oc n e) hP'
    have F2 := F1.push (LamO q params body scope ((mg "__name__").getD .none) (.ref c') ctv)
    obtain ⟨b', e', F3, k, _⟩ := F2.freeze _ (List.Sublist.refl _)
    have hr : b'.CodeRec (.ref c') q := by
      obtain ⟨c2, o, vs, t, e2, g2, r2⟩ := hrec
      cases e2
      refine ⟨c', o, vs, t, rfl, k _ _ (fun q => ?_) (fun q => ?_) (Heap.get?_push_of_some _ g2), r2⟩
      · rw [q] at hge; exact absurd F.ns.lt (Nat.not_lt.mpr hge)
      · rcases List.mem_cons.mp q with q | q
        · rw [q] at hlt; exact absurd hlt (Nat.lt_irrefl _)
        · obtain ⟨p, hp', q2⟩ := List.mem_map.mp q
          have hl : p.1 < hp.objs.size := by
            rcases List.mem_cons.mp hp' with rfl | hp'
            · exact Heap.lt_size hP
            · exact Heap.lt_size (F.has _ (.tail _ hp'))
          rw [q2] at hl
          exact absurd hl (Nat.not_lt.mpr hge)
    refine h _ (.ref c') _ _ _ b' _ _ e' F3 ⟨?_, fun qq v hv => ?_⟩ hr
    · rw [Array.toList_append]
      exact TriplesOk_snoc _ _ _ _ D.1
    · rw [Array.toList_append] at hv
      rcases among_snoc _ D.1 hv with hv | rfl
      · exact (D.2 _ _ hv).keeps e'
      · exact hr
end
section
variable {prog : Program} {w : World} {A : Around} {E : Value → Shared → Prop} {hp : Heap} {gs : Array GenState} {dr : Drawn} {tk : Nat} {os : OsState} {mg mb : Str → Option Value} {Q : Value → Shared → Prop} {x y f : Addr}
  {q : Str} {params : Arguments} {scope : Scope} {pm cd ctv : Value} {x1 x2 : Str} {p1 p2 p3 : Pos}
theorem nm_name {n : Str} {pos : Pos} {v : Value} {b : Heap} {L a : Addr} {m : Str → Option Value} {own : List (Addr × Obj)} {cn : Str} {cs : Scope} {ccd : Value} {cl : List (Str × Addr)} (hk : cs.kind = .function) (hx : cs.names.lookup n = some .local) (F : Fx b L hp m own) (hv : m n = some v) (hd : (n == ("__debug__" : Str)) = false)
    (h : Q v ⟨hp, gs, dr, tk, os⟩) : wpAny (model prog w) A (eval (.Name n pos) (envX cn cs L a ccd cl)) Q E ⟨hp, gs, dr, tk, os⟩ :=
  n_loc F hv h hk hx hd
/-- what a lambda that lays its two arguments into a row must be -/
structure LamOk (params : Arguments) (scope : Scope) (x1 x2 : Str) : Prop where
  bind : ∀ (q : Str) (body : Expr) (pm cd ctv v1 v2 : Value), bindArgs (kla_fn "<lambda>" q params body scope [] pm cd ctv) ⟨[v1, v2], []⟩ = pure [(x1, v1), (x2, v2)]
  ne : x1 ≠ x2
  k1 : scope.names.lookup x1 = some .local
  k2 : scope.names.lookup x2 = some .local
  cell : ∀ x ∈ scope.names, x.2 ≠ .cell
  co : scope.isCoroutine = false
  gen : scope.isGenerator = false
  kind : scope.kind = .function
  d1 : (x1 == ("__debug__" : Str)) = false
  d2 : (x2 == ("__debug__" : Str)) = false
theorem lam_call {v1 v2 : Value} (ok : LamOk params scope x1 x2) (hf : hp.get? f = some (LamO q params (.List [.Name x1 p1, .Name x2 p2] p3) scope pm cd ctv)) (hcd : hp.CodeRec cd q) (hlim : hp.NoLimit) (hroom : A.depth < 400)
    (h : ∀ R h' tk', Ext hp h' → hp.get? R = none → h'.get? R = some (LO [v1, v2] 0) → Q (.ref R) ⟨h', gs, dr, tk', os⟩) : wpAny (model prog w) A (call (.ref f) [v1, v2]) Q E ⟨hp, gs, dr, tk, os⟩ := by
  refine wpAny_call ?_
  refine kla_callFunE (by simp only [recursionLimit]; omega) hf rfl ok.co ok.gen rfl hcd ?_
  rw [ok.bind]
  have hloc : ∀ y ∈ [(x1, v1), (x2, v2)], scope.names.lookup y.1 = some .local := fun y hy => by
    simp only [List.mem_cons, List.not_mem_nil, or_false] at hy
    rcases hy with rfl | rfl
    · exact ok.k1
    · exact ok.k2
  refine wpAny_pure (wpAny_newFunctionEnv ok.cell hloc (fun h₁ hns hsb => ⟨hlim.fresh _ hsb, ?_⟩) ok.kind)
  show codeAny _ _ (.expr _ (envX q scope hp.objs.size f cd [])) _ _
  have hk₁ : Ext hp h₁ := fun b o e => hsb.extBut b o (Nat.ne_of_lt (Heap.lt_size e)) (Heap.get?_push_of_some _ e)
  have F : Fx hp hp.objs.size h₁ (fun y => [(x1, v1), (x2, v2)].reverse.lookup y) [] := ⟨hns, hk₁, none_at_size _, (fun _ z => by cases z), (fun _ z => by cases z), List.nodup_cons.mpr ⟨List.not_mem_nil, List.nodup_nil⟩⟩
  refine kla_codeExpr ?_
  have e1 : (fun y => [(x1, v1), (x2, v2)].reverse.lookup y) x1 = some v1 := by
    have : (x1 == x2) = false := beq_eq_false_iff_ne.mpr ok.ne
    simp [List.lookup_cons, this]
  have e2 : (fun y => [(x1, v1), (x2, v2)].reverse.lookup y) x2 = some v2 := by simp
  refine List_ ?_
  refine args_cons (nm_name ok.kind ok.k1 F e1 ok.d1 (args_cons (nm_name ok.kind ok.k2 F e2 ok.d2 (args_nil ?_)) rfl)) rfl
  refine nl F (fun D h' F' e' => ?_) (by simp)
  exact h D _ _ F'.keep (F'.out _ (.head _)) F'.head
set_option maxHeartbeats 4000000 in
/-- compare_pvector with such a lambda hands the plain rows on: against a plain row -/
theorem cmp_lam {l : Addr} {nl : Nat} {xs ys : List Value} (ok : LamOk params scope x1 x2) (hf : hp.get? f = some (LamO q params (.List [.Name x1 p1, .Name x2 p2] p3) scope pm cd ctv)) (hcd : hp.CodeRec cd q) (T : Tp (KK w) mg mb hp) (V : VecAt hp x xs) (hl : hp.get? l = some (LO ys nl)) (hz : xs.length ≤ 1000) (hroom : A.depth < 380) (hh : A.handled = none)
    (h : ∀ R D c h' tk', Ext hp h' → hp.get? R = none → h'.get? R = some (LO [.ref D, .ref l] 0) → h'.get? D = some (LO xs c) → Q (.ref R) ⟨h', gs, dr, tk', os⟩) :
    wpAny (model prog w) A (call (.ref g_compare_pvector) [.ref x, .ref l, .ref f]) Q E ⟨hp, gs, dr, tk, os⟩ := by
  obtain ⟨dx, root, tail, n, toff, t1, t2, t3, hx, hdx, _⟩ := V.len
  refine wpAny_call ?_
  refine call_fx [] (binds := [(Str.ofString "v", .ref x), (Str.ofString "other", .ref l), (Str.ofString "operator", .ref f)]) (by walk_at "room") (T.X _ _ (lk g_compare_pvector (by kernel_rfl))) (by with_unfolding_all rfl) T.nolimit (codeRec_of T.X (by kernel_rfl)) (BindsTo.of_eq (by with_unfolding_all rfl)) (locs (by with_unfolding_all rfl)) (fun _ q => nomatch q) List.nodup_nil ?_ (by decide +kernel)
  intro L h₁ tk F
  have F : Fx hp L h₁ _ [] := F
  walk_at "r"
  refine callWith_def (o := LamO q params (.List [.Name x1 p1, .Name x2 p2] p3) scope pm cd ctv) rfl ?_ (by with_unfolding_all rfl)
  walk_at "r"
  refine gm_tolist (T.up F.keep).X (F.keep _ _ hx) (F.keep _ _ hdx) ?_
  refine cw_fn0 T F.keep (by kernel_rfl) ?_
  refine vec_tolist (T.up F.keep) (V.up F.keep) (by omega) (by walk_at "room") hh ?_
  intro D c h2 tk2 e2 hDn hD
  replace F := F.gain e2 hDn hD
  walk_at "r"
  refine IfExp_ ?_
  walk_at "r"
  refine isi_list (T.up F.keep).X (F.keep _ _ hl) fun tk' => ?_
  walk_at "r"
  rw [if_neg (by decide)]
  walk_at "r"
  refine ⟨F.keep _ _ hf, ?_⟩
  refine lam_call ok (F.keep _ _ hf) (hcd.keeps F.keep) (T.up F.keep).nolimit (by walk_at "room") fun R h' tk' e hR hR' => ?_
  walk_at "r"
  exact h R D c _ _ (F.keep.trans e) (F.keep.none hR) hR' (e _ _ F.head)
set_option maxHeartbeats 4000000 in
theorem cmp_lam2 {xs ys : List Value} (ok : LamOk params scope x1 x2) (hf : hp.get? f = some (LamO q params (.List [.Name x1 p1, .Name x2 p2] p3) scope pm cd ctv)) (hcd : hp.CodeRec cd q) (T : Tp (KK w) mg mb hp) (V : VecAt hp x xs) (W : VecAt hp y ys) (hz : xs.length ≤ 1000) (hz2 : ys.length ≤ 1000) (hroom : A.depth < 380) (hh : A.handled = none)
    (h : ∀ R D D2 c c2 h' tk', Ext hp h' → hp.get? R = none → h'.get? R = some (LO [.ref D, .ref D2] 0) → h'.get? D = some (LO xs c) → h'.get? D2 = some (LO ys c2) → Q (.ref R) ⟨h', gs, dr, tk', os⟩) :
    wpAny (model prog w) A (call (.ref g_compare_pvector) [.ref x, .ref y, .ref f]) Q E ⟨hp, gs, dr, tk, os⟩ := by
  obtain ⟨dx, root, tail, n, toff, t1, t2, t3, hx, hdx, _⟩ := V.len
  obtain ⟨dy, _, _, _, _, _, _, _, hy, hdy, _⟩ := W.len
  refine wpAny_call ?_
  refine call_fx [] (binds := [(Str.ofString "v", .ref x), (Str.ofString "other", .ref y), (Str.ofString "operator", .ref f)]) (by walk_at "room") (T.X _ _ (lk g_compare_pvector (by kernel_rfl))) (by with_unfolding_all rfl) T.nolimit (codeRec_of T.X (by kernel_rfl)) (BindsTo.of_eq (by with_unfolding_all rfl)) (locs (by with_unfolding_all rfl)) (fun _ q => nomatch q) List.nodup_nil ?_ (by decide +kernel)
  intro L h₁ tk F
  have F : Fx hp L h₁ _ [] := F
  walk_at "r"
  refine callWith_def (o := LamO q params (.List [.Name x1 p1, .Name x2 p2] p3) scope pm cd ctv) rfl ?_ (by with_unfolding_all rfl)
  walk_at "r"
  refine gm_tolist (T.up F.keep).X (F.keep _ _ hx) (F.keep _ _ hdx) ?_
  refine cw_fn0 T F.keep (by kernel_rfl) ?_
  refine vec_tolist (T.up F.keep) (V.up F.keep) (by omega) (by walk_at "room") hh ?_
  intro D c h2 tk2 e2 hDn hD
  replace F := F.gain e2 hDn hD
  walk_at "r"
  refine IfExp_ ?_
  walk_at "r"
  refine isi_vec (T.up F.keep).X (F.keep _ _ hy) (F.keep _ _ hdy) ?_
  walk_at "r"
  rw [if_pos rfl]
  walk_at "r"
  refine gm_tolist (T.up F.keep).X (F.keep _ _ hy) (F.keep _ _ hdy) ?_
  refine cw_fn0 T F.keep (by kernel_rfl) ?_
  refine vec_tolist (T.up F.keep) (W.up F.keep) (by omega) (by walk_at "room") hh ?_
  intro D2 c2 h3 tk3 e3 hDn2 hD2
  replace F := F.gain e3 hDn2 hD2
  walk_at "r"
  refine ⟨F.keep _ _ hf, ?_⟩
  refine lam_call ok (F.keep _ _ hf) (hcd.keeps F.keep) (T.up F.keep).nolimit (by walk_at "room") fun R h' tk' e hR hR' => ?_
  walk_at "r"
  exact h R D D2 c c2 _ _ (F.keep.trans e) (F.keep.none hR) hR' (e _ _ F.head2) (e _ _ F.head)
end
section
variable {prog : Program} {w : World} {hp : Heap} {gs : Array GenState} {dr : Drawn} {os : OsState} {mg mb : Str → Option Value} {x y l : Addr} {xs ys : List Value} {ns ms : List Int} {nl : Nat}
theorem told_vv (T : Tp (KK w) mg mb hp) (V : VecAt hp x xs) (W : VecAt hp y ys) (hxy : x = y → ns = ms) (hi : IntsAre xs ns) (hj : IntsAre ys ms) (hz : ns.length ≤ 1000) (hz2 : ms.length ≤ 1000) : Told prog w gs dr os hp (.ref x) (.ref y) (ordI ns ms) := by
  intro op hop A E Q h₁ tk hd hu hh e h
  simp only [List.mem_cons, List.not_mem_nil, or_false] at hop
  rcases hop with rfl | rfl | rfl | rfl | rfl | rfl
  · exact sg_vv_eq (T.up e) (V.up e) (W.up e) hi hj hz hz2 hd hu hh hxy h
  · exact sg_vv_ne (T.up e) (V.up e) (W.up e) hi hj hz hz2 hd hu hh hxy h
  · exact sg_vv_lt (T.up e) (V.up e) (W.up e) hi hj hz hz2 hd hu hh hxy h
  · exact sg_vv_le (T.up e) (V.up e) (W.up e) hi hj hz hz2 hd hu hh hxy h
  · exact sg_vv_gt (T.up e) (V.up e) (W.up e) hi hj hz hz2 hd hu hh hxy h
  · exact sg_vv_ge (T.up e) (V.up e) (W.up e) hi hj hz hz2 hd hu hh hxy h
theorem told_vl (T : Tp (KK w) mg mb hp) (V : VecAt hp x xs) (hl : hp.get? l = some (LO ys nl)) (hi : IntsAre xs ns) (hj : IntsAre ys ms) (hz : ns.length ≤ 1000) (hz2 : ms.length ≤ 1000) : Told prog w gs dr os hp (.ref x) (.ref l) (ordI ns ms) := by
  intro op hop A E Q h₁ tk hd hu hh e h
  simp only [List.mem_cons, List.not_mem_nil, or_false] at hop
  rcases hop with rfl | rfl | rfl | rfl | rfl | rfl
  · exact sg_vl_eq (T.up e) (V.up e) (e _ _ hl) hi hj hz hz2 hd hu hh h
  · exact sg_vl_ne (T.up e) (V.up e) (e _ _ hl) hi hj hz hz2 hd hu hh h
  · exact sg_vl_lt (T.up e) (V.up e) (e _ _ hl) hi hj hz hz2 hd hu hh h
  · exact sg_vl_le (T.up e) (V.up e) (e _ _ hl) hi hj hz hz2 hd hu hh h
  · exact sg_vl_gt (T.up e) (V.up e) (e _ _ hl) hi hj hz hz2 hd hu hh h
  · exact sg_vl_ge (T.up e) (V.up e) (e _ _ hl) hi hj hz hz2 hd hu hh h
theorem told_lv (T : Tp (KK w) mg mb hp) (hl : hp.get? l = some (LO ys nl)) (V : VecAt hp x xs) (hi : IntsAre xs ns) (hj : IntsAre ys ms) (hz : ns.length ≤ 1000) (hz2 : ms.length ≤ 1000) : Told prog w gs dr os hp (.ref l) (.ref x) (ordI ms ns) := by
  intro op hop A E Q h₁ tk hd hu hh e h
  simp only [List.mem_cons, List.not_mem_nil, or_false] at hop
  rcases hop with rfl | rfl | rfl | rfl | rfl | rfl
  · exact sg_lv_eq (T.up e) (e _ _ hl) (V.up e) hi hj hz hz2 hd hu hh h
  · exact sg_lv_ne (T.up e) (e _ _ hl) (V.up e) hi hj hz hz2 hd hu hh h
  · exact sg_lv_lt (T.up e) (e _ _ hl) (V.up e) hi hj hz hz2 hd hu hh h
  · exact sg_lv_le (T.up e) (e _ _ hl) (V.up e) hi hj hz hz2 hd hu hh h
  · exact sg_lv_gt (T.up e) (e _ _ hl) (V.up e) hi hj hz hz2 hd hu hh h
  · exact sg_lv_ge (T.up e) (e _ _ hl) (V.up e) hi hj hz hz2 hd hu hh h
/-- unequal, by both signs -/
def Unl (prog : Program) (w : World) (gs : Array GenState) (dr : Drawn) (os : OsState) (b : Heap) (a o : Value) : Prop :=
  ∀ (A : Around) (E Q : Value → Shared → Prop) h₁ tk op r, (op, r) ∈ [(CmpOp.Eq, false), (.NotEq, true)] → A.depth < 350 → A.units < 700 → A.handled = none → Ext b h₁ → (∀ h' tk', Ext h₁ h' → Q (.bool r) ⟨h', gs, dr, tk', os⟩) → wpAny (model prog w) A (compareOp op a o) Q E ⟨h₁, gs, dr, tk, os⟩
/-- a thing that is unequal to the vector and has no order with it -/
structure Alien (prog : Program) (w : World) (gs : Array GenState) (dr : Drawn) (os : OsState) (b : Heap) (a o : Value) : Prop where
  u1 : Unl prog w gs dr os b a o
  u2 : Unl prog w gs dr os b o a
  r1 : Refuse prog w gs dr os b a o
  r2 : Refuse prog w gs dr os b o a
theorem alien_tuple {t0 : Addr} {its : List Value} {nt : Nat} (ht : hp.get? t0 = some { cls := .type "tuple", data := .seq its.toArray nt }) (T : Tp (KK w) mg mb hp) (V : VecAt hp x xs) (hz : xs.length ≤ 1000) (hk : its.length ≤ 1000) : Alien prog w gs dr os hp (.ref x) (.ref t0) := by
  refine ⟨fun A E Q h₁ tk op r ho hd hu hh e h => ?_, fun A E Q h₁ tk op r ho hd hu hh e h => ?_, fun op ho A E Q h₁ tk outer hd hu hh hf e hff h => ?_, fun op ho A E Q h₁ tk outer hd hu hh hf e hff h => ?_⟩
  · simp only [List.mem_cons, Prod.mk.injEq, List.not_mem_nil, or_false] at ho
    rcases ho with ⟨rfl, rfl⟩ | ⟨rfl, rfl⟩
    · exact sgo_v_tuple_eq (e _ _ ht) (T.up e) (V.up e) hz hk hd hu hh h
    · exact sgo_v_tuple_ne (e _ _ ht) (T.up e) (V.up e) hz hk hd hu hh h
  · simp only [List.mem_cons, Prod.mk.injEq, List.not_mem_nil, or_false] at ho
    rcases ho with ⟨rfl, rfl⟩ | ⟨rfl, rfl⟩
    · exact sgo_tuple_v_eq (e _ _ ht) (T.up e) (V.up e) hz hk hd hu hh h
    · exact sgo_tuple_v_ne (e _ _ ht) (T.up e) (V.up e) hz hk hd hu hh h
  · simp only [List.mem_cons, List.not_mem_nil, or_false] at ho
    rcases ho with rfl | rfl | rfl | rfl
    · exact sgr_v_tuple_lt (e _ _ ht) (T.up e) (V.up e) hz hd hu hh hf e hff h
    · exact sgr_v_tuple_le (e _ _ ht) (T.up e) (V.up e) hz hd hu hh hf e hff h
    · exact sgr_v_tuple_gt (e _ _ ht) (T.up e) (V.up e) hz hd hu hh hf e hff h
    · exact sgr_v_tuple_ge (e _ _ ht) (T.up e) (V.up e) hz hd hu hh hf e hff h
  · simp only [List.mem_cons, List.not_mem_nil, or_false] at ho
    rcases ho with rfl | rfl | rfl | rfl
    · exact sgr_tuple_v_lt (e _ _ ht) (T.up e) (V.up e) hz hd hu hh hf e hff h
    · exact sgr_tuple_v_le (e _ _ ht) (T.up e) (V.up e) hz hd hu hh hf e hff h
    · exact sgr_tuple_v_gt (e _ _ ht) (T.up e) (V.up e) hz hd hu hh hf e hff h
    · exact sgr_tuple_v_ge (e _ _ ht) (T.up e) (V.up e) hz hd hu hh hf e hff h
theorem alien_int {k : Int} {u : Tok} (T : Tp (KK w) mg mb hp) (V : VecAt hp x xs) (hz : xs.length ≤ 1000)  : Alien prog w gs dr os hp (.ref x) (.int k u) := by
  refine ⟨fun A E Q h₁ tk op r ho hd hu hh e h => ?_, fun A E Q h₁ tk op r ho hd hu hh e h => ?_, fun op ho A E Q h₁ tk outer hd hu hh hf e hff h => ?_, fun op ho A E Q h₁ tk outer hd hu hh hf e hff h => ?_⟩
  · simp only [List.mem_cons, Prod.mk.injEq, List.not_mem_nil, or_false] at ho
    rcases ho with ⟨rfl, rfl⟩ | ⟨rfl, rfl⟩
    · exact sgo_v_int_eq (T.up e) (V.up e) hz hd hu hh h
    · exact sgo_v_int_ne (T.up e) (V.up e) hz hd hu hh h
  · simp only [List.mem_cons, Prod.mk.injEq, List.not_mem_nil, or_false] at ho
    rcases ho with ⟨rfl, rfl⟩ | ⟨rfl, rfl⟩
    · exact sgo_int_v_eq (T.up e) (V.up e) hz hd hu hh h
    · exact sgo_int_v_ne (T.up e) (V.up e) hz hd hu hh h
  · simp only [List.mem_cons, List.not_mem_nil, or_false] at ho
    rcases ho with rfl | rfl | rfl | rfl
    · exact sgr_v_int_lt (T.up e) (V.up e) hz hd hu hh hf e hff h
    · exact sgr_v_int_le (T.up e) (V.up e) hz hd hu hh hf e hff h
    · exact sgr_v_int_gt (T.up e) (V.up e) hz hd hu hh hf e hff h
    · exact sgr_v_int_ge (T.up e) (V.up e) hz hd hu hh hf e hff h
  · simp only [List.mem_cons, List.not_mem_nil, or_false] at ho
    rcases ho with rfl | rfl | rfl | rfl
    · exact sgr_int_v_lt (T.up e) (V.up e) hz hd hu hh hf e hff h
    · exact sgr_int_v_le (T.up e) (V.up e) hz hd hu hh hf e hff h
    · exact sgr_int_v_gt (T.up e) (V.up e) hz hd hu hh hf e hff h
    · exact sgr_int_v_ge (T.up e) (V.up e) hz hd hu hh hf e hff h
theorem alien_none  (T : Tp (KK w) mg mb hp) (V : VecAt hp x xs) (hz : xs.length ≤ 1000)  : Alien prog w gs dr os hp (.ref x) (.none) := by
  refine ⟨fun A E Q h₁ tk op r ho hd hu hh e h => ?_, fun A E Q h₁ tk op r ho hd hu hh e h => ?_, fun op ho A E Q h₁ tk outer hd hu hh hf e hff h => ?_, fun op ho A E Q h₁ tk outer hd hu hh hf e hff h => ?_⟩
  · simp only [List.mem_cons, Prod.mk.injEq, List.not_mem_nil, or_false] at ho
    rcases ho with ⟨rfl, rfl⟩ | ⟨rfl, rfl⟩
    · exact sgo_v_none_eq (T.up e) (V.up e) hz hd hu hh h
    · exact sgo_v_none_ne (T.up e) (V.up e) hz hd hu hh h
  · simp only [List.mem_cons, Prod.mk.injEq, List.not_mem_nil, or_false] at ho
    rcases ho with ⟨rfl, rfl⟩ | ⟨rfl, rfl⟩
    · exact sgo_none_v_eq (T.up e) (V.up e) hz hd hu hh h
    · exact sgo_none_v_ne (T.up e) (V.up e) hz hd hu hh h
  · simp only [List.mem_cons, List.not_mem_nil, or_false] at ho
    rcases ho with rfl | rfl | rfl | rfl
    · exact sgr_v_NoneType_lt (T.up e) (V.up e) hz hd hu hh hf e hff h
    · exact sgr_v_NoneType_le (T.up e) (V.up e) hz hd hu hh hf e hff h
    · exact sgr_v_NoneType_gt (T.up e) (V.up e) hz hd hu hh hf e hff h
    · exact sgr_v_NoneType_ge (T.up e) (V.up e) hz hd hu hh hf e hff h
  · simp only [List.mem_cons, List.not_mem_nil, or_false] at ho
    rcases ho with rfl | rfl | rfl | rfl
    · exact sgr_NoneType_v_lt (T.up e) (V.up e) hz hd hu hh hf e hff h
    · exact sgr_NoneType_v_le (T.up e) (V.up e) hz hd hu hh hf e hff h
    · exact sgr_NoneType_v_gt (T.up e) (V.up e) hz hd hu hh hf e hff h
    · exact sgr_NoneType_v_ge (T.up e) (V.up e) hz hd hu hh hf e hff h
theorem alien_str {k : Str} {u : Tok} (T : Tp (KK w) mg mb hp) (V : VecAt hp x xs) (hz : xs.length ≤ 1000) (hk : k.length ≤ 1000) : Alien prog w gs dr os hp (.ref x) (.str k u) := by
  refine ⟨fun A E Q h₁ tk op r ho hd hu hh e h => ?_, fun A E Q h₁ tk op r ho hd hu hh e h => ?_, fun op ho A E Q h₁ tk outer hd hu hh hf e hff h => ?_, fun op ho A E Q h₁ tk outer hd hu hh hf e hff h => ?_⟩
  · simp only [List.mem_cons, Prod.mk.injEq, List.not_mem_nil, or_false] at ho
    rcases ho with ⟨rfl, rfl⟩ | ⟨rfl, rfl⟩
    · exact sgo_v_str_eq (T.up e) (V.up e) hz hk hd hu hh h
    · exact sgo_v_str_ne (T.up e) (V.up e) hz hk hd hu hh h
  · simp only [List.mem_cons, Prod.mk.injEq, List.not_mem_nil, or_false] at ho
    rcases ho with ⟨rfl, rfl⟩ | ⟨rfl, rfl⟩
    · exact sgo_str_v_eq (T.up e) (V.up e) hz hk hd hu hh h
    · exact sgo_str_v_ne (T.up e) (V.up e) hz hk hd hu hh h
  · simp only [List.mem_cons, List.not_mem_nil, or_false] at ho
    rcases ho with rfl | rfl | rfl | rfl
    · exact sgr_v_str_lt (T.up e) (V.up e) hz hd hu hh hf e hff h
    · exact sgr_v_str_le (T.up e) (V.up e) hz hd hu hh hf e hff h
    · exact sgr_v_str_gt (T.up e) (V.up e) hz hd hu hh hf e hff h
    · exact sgr_v_str_ge (T.up e) (V.up e) hz hd hu hh hf e hff h
  · simp only [List.mem_cons, List.not_mem_nil, or_false] at ho
    rcases ho with rfl | rfl | rfl | rfl
    · exact sgr_str_v_lt (T.up e) (V.up e) hz hd hu hh hf e hff h
    · exact sgr_str_v_le (T.up e) (V.up e) hz hd hu hh hf e hff h
    · exact sgr_str_v_gt (T.up e) (V.up e) hz hd hu hh hf e hff h
    · exact sgr_str_v_ge (T.up e) (V.up e) hz hd hu hh hf e hff h
/-- the four things that the law asks a vector against -/
inductive Other (b : Heap) : Value → Prop
  | tuple (t0 : Addr) (its : List Value) (nt : Nat) (ht : b.get? t0 = some { cls := .type "tuple", data := .seq its.toArray nt }) (hk : its.length ≤ 1000) : Other b (.ref t0)
  | int (k : Int) (u : Tok) : Other b (.int k u)
  | none : Other b .none
  | str (k : Str) (u : Tok) (hk : k.length ≤ 1000) : Other b (.str k u)
theorem Other.up {b b' : Heap} {o : Value} (k : Other b o) (e : Ext b b') : Other b' o := by
  cases k with
  | tuple t0 its nt ht hk => exact .tuple t0 its nt (e _ _ ht) hk
  | int k u => exact .int k u
  | none => exact .none
  | str k u hk => exact .str k u hk
theorem alien_of {o : Value} (T : Tp (KK w) mg mb hp) (V : VecAt hp x xs) (hz : xs.length ≤ 1000) (k : Other hp o) : Alien prog w gs dr os hp (.ref x) o := by
  cases k with
  | tuple t0 its nt ht hk => exact alien_tuple ht T V hz hk
  | int k u => exact alien_int T V hz
  | none => exact alien_none T V hz
  | str k u hk => exact alien_str T V hz hk
end
section
variable {prog : Program} {w : World} {A : Around} {E : Value → Shared → Prop}
theorem comp0_loop {elt iter : PySem.Expr} {x : Str} {px : Pos} {scope : Scope} {pos : Pos} {it acc : Value} {env : Env} {R : Result → Shared → Prop} (I : Nat → Shared → Prop)
    (turn : ∀ n s, I n s → ∀ E', wpAny (model prog w) A (pyNext it) (fun r s₁ => match r with
      | none => R (.ok .next) s₁
      | some v => wpAny (model prog w) A (assign (.Name x px) env v) (fun _ s₂ =>
          wpAny (model prog w) A (eval elt env) (fun y s₄ =>
            wpAny (model prog w) A (call (.builtin "list.append") [acc, y]) (fun _ s₅ => ∃ m, m < n ∧ I m s₅) E' s₄) E' s₂) E' s₁) E' s)
    (n : Nat) (h : I n s) : codeAny (model prog w) A (.compLoop (.ListComp elt [⟨.Name x px, iter, [], 0⟩] scope pos) 0 it acc env) R s := by
  refine codeAny_loop rfl I (fun n s hI => ?_) n h
  show wpAny _ A ((compTurn (.ListComp elt [⟨.Name x px, iter, [], 0⟩] scope pos) 0 it acc env).onRaise (fun x => do noteFrame x env; theTreesLotGoes x)) _ _ s
  refine wpAny_noted ?_
  rw [compTurn_list]
  refine wpAny_bind (wpAny_standAt (wpAny_bind (wpAny_mono (turn n s hI _) (fun r s₁ h₁ => ?_) fun _ _ h' => h')))
  cases r with
  | none => exact wpAny_pure h₁
  | some v =>
    refine wpAny_bind (m := letOwnedTupleGo (.Name x px) it v) (wpAny_pure ?_)
    refine wpAny_bind (wpAny_mono h₁ (fun _ s₂ h₂ => ?_) fun _ _ h' => h')
    refine wpAny_bind (wpAny_pure ?_)
    exact wpAny_bind (wpAny_bind (wpAny_mono h₂ (fun y s₄ h₄ => wpAny_bind (wpAny_mono h₄ (fun _ s₅ h₅ => wpAny_pure (wpAny_pure ⟨rfl, h₅⟩)) fun _ _ h' => h')) fun _ _ h' => h'))
end
/-- a vector's numbers are told by where it stands -/
theorem VecAt.one {h : Heap} {x : Addr} {xs ys : List Value} (V : VecAt h x xs) (W : VecAt h x ys) : xs = ys := by
  obtain ⟨dx, root, tail, n, toff, t1, t2, t3, yss, zs, nt, e1, e2, ⟨nr, cs, gr, hl, hk⟩, e4, e5, e6, e7, e8, e9⟩ := V
  obtain ⟨dx', root', tail', n', toff', u1, u2, u3, yss', zs', nt', f1, f2, ⟨nr', cs', gr', hl', hk'⟩, f4, f5, f6, f7, f8, f9⟩ := W
  rw [e1] at f1
  have q := Option.some.inj f1
  simp only [VO, IO] at q
  injection q with _ _ _ q
  simp at q
  obtain ⟨⟨rfl, _⟩, rfl, _, rfl, _⟩ := q
  have lo : ∀ {a : Addr} {i j : List Value} {c c' : Nat}, h.get? a = some (LO i c) → h.get? a = some (LO j c') → i = j := fun p q => by
    rw [p] at q
    have := Option.some.inj q
    injection this with _ _ hd _
    injection hd with hd
    simpa using hd
  have hz := lo e4 f4
  have hc := lo gr gr'
  have hc : cs = cs' := by
    have inj : Function.Injective Value.ref := fun a b q => Value.ref.inj q
    exact (List.map_inj_right (fun a b q => inj q)).mp hc
  subst hz hc
  have : yss = yss' := by
    apply List.ext_getElem?
    intro i
    by_cases hi : i < cs.length
    · have a1 : cs[i]? = some cs[i] := List.getElem?_eq_getElem hi
      have a2 : yss[i]? = some (yss[i]'(by omega)) := List.getElem?_eq_getElem (by omega)
      have a3 : yss'[i]? = some (yss'[i]'(by omega)) := List.getElem?_eq_getElem (by omega)
      obtain ⟨_, g1⟩ := hk i _ _ a1 a2
      obtain ⟨_, g2⟩ := hk' i _ _ a1 a3
      rw [a2, a3, lo g1 g2]
    · rw [List.getElem?_eq_none (by omega), List.getElem?_eq_none (by omega)]
  rw [e9, f9, this]
/-- a new vector holds none of an empty row that stood before -/
theorem VecAt.kpn {h b h₀ : Heap} {D r x : Addr} {c : Nat} {o : Obj} {xs : List Value} (V : VecAt h x xs) (k : Kpx [D] h b) (hD : h.get? D = some (LO [] c)) (hD0 : h₀.get? D = some o) (hr : r ≠ D) (N : NewAt h₀ h r x) : VecAt b x xs := by
  obtain ⟨dx, root, tail, n, toff, t1, t2, t3, yss, zs, nt, e1, e2, ⟨nr, cs, gr, hl, hk⟩, e4, e5, e6, e7, e8, e9⟩ := V
  obtain ⟨dx', root', tail', n', sh', toff', u1, u2, u3, f1, f2, f3⟩ := N
  rw [e1] at f1
  have q := Option.some.inj f1
  simp only [VO, IO] at q
  injection q with _ _ _ q
  simp at q
  obtain ⟨_, rfl, _, rfl, _⟩ := q
  have nl : ∀ {a : Addr} {o' : Obj}, h.get? a = some o' → o' ≠ LO [] c → a ∉ [D] := fun e n q => by
    rw [List.mem_singleton.mp q, hD] at e
    exact n (Option.some.inj e).symm
  refine ⟨dx, root, tail, n, toff, t1, t2, t3, yss, zs, nt, k _ _ e1 (solid_inst _ _) (nl e1 fun q => ?_), k _ _ e2 solid_empty (nl e2 fun q => ?_), ⟨nr, cs, k.list gr (fun q => ?_), hl, fun i c' ys hc hy => ?_⟩, k.list e4 (fun q => ?_), e5, e6, e7, e8, e9⟩
  · injection q with hc _ _ _; cases hc
  · injection q with hc _ _ _; injection hc with hc; exact absurd hc (by decide)
  · rw [List.mem_singleton.mp q] at f2
    exact hr (f2 c hD).symm
  · obtain ⟨nc, hcl⟩ := hk i c' ys hc hy
    refine ⟨nc, k.list hcl (nl hcl fun q => ?_)⟩
    have : ys.length = 32 := e8 ys (List.mem_of_getElem? hy)
    injection q with _ _ hd _
    injection hd with hd
    have : ys = [] := by simpa using hd
    subst this
    exact absurd ‹([] : List Value).length = 32› (by decide)
  · rw [List.mem_singleton.mp q, hD0] at f3
    cases f3
section
variable {prog : Program} {w : World} {A : Around} {E : Value → Shared → Prop} {hp : Heap} {gs : Array GenState} {dr : Drawn} {tk : Nat} {os : OsState} {mg mb : Str → Option Value} {x dx : Addr} {sl : List (Option Value)} {Q : Value → Shared → Prop}
theorem empty_rootN : ∃ r c, (KK w).lookup r = some (LO [] c) ∧ ∃ dx n sh tail toff t1 t2 t3, (KK w).lookup aEmpty = some (VO dx n r sh tail toff t1 t2 t3) := by
  obtain ⟨dx, root, n, tail, toff, t1, t2, t3, nr, a, c⟩ : ∃ dx root n tail toff t1 t2 t3 nr, (KK w).lookup aEmpty = some (VO dx n root 5 tail toff t1 t2 t3) ∧ (KK w).lookup root = some (LO [] nr) :=
    ⟨_, _, _, _, _, _, _, _, _, by with_unfolding_all rfl, by with_unfolding_all rfl⟩
  exact ⟨root, nr, c, dx, n, 5, tail, toff, t1, t2, t3, a⟩
theorem pvector_specN {ys : List Value} {v : Value} (T : Tp (KK w) mg mb hp) (S : Src hp v ys) (hn : ys.length < 1056) (hroom : A.depth < 390) (hh : A.handled = none)
    (h : ∀ x' h' tk, Ext hp h' → VecAt h' x' ys → (x' = aEmpty ∧ ys = [] ∨ ∃ r c, (KK w).lookup r = some (LO [] c) ∧ NewAt hp h' r x') → Q (.ref x') ⟨h', gs, dr, tk, os⟩) : wpAny (model prog w) A (call (.ref g_python_pvector) [v]) Q E ⟨hp, gs, dr, tk, os⟩ := by
  have V := empty_vec T.X
  obtain ⟨dx, root, tail, n, toff, t1, t2, t3, hx, hdx, _⟩ := V.len
  obtain ⟨rE, cE, hrE, hxE⟩ := empty_rootN (w := w)
  have hxE' := T.X _ _ hxE.choose_spec.choose_spec.choose_spec.choose_spec.choose_spec.choose_spec.choose_spec.choose_spec
  refine wpAny_call ?_
  refine call_fx [] (binds := [(Str.ofString "iterable", v)]) (by walk_at "room") (T.X _ _ (lk g_python_pvector (by kernel_rfl))) (by with_unfolding_all rfl) T.nolimit (codeRec_of T.X (by kernel_rfl)) (BindsTo.of_defaults rfl (T.X _ _ (lk _ (by kernel_rfl))) (by with_unfolding_all rfl) (by with_unfolding_all rfl) (by with_unfolding_all rfl)) (locs (by with_unfolding_all rfl)) (fun _ q => nomatch q) List.nodup_nil ?_ (by decide +kernel)
  intro L h₁ tk F
  have F : Fx hp L h₁ _ [] := F
  walk_at "r"
  refine gm_extend (T.up F.keep).X (F.keep _ _ hx) (F.keep _ _ hdx) ?_
  refine cw_fn T (by kernel_rfl) ?_
  walk_at "r"
  refine ⟨F.keep, ?_⟩
  have S' : Src h₁ v ys := by
    rcases S with ⟨l, nl, rfl, hl⟩ | ⟨y, rfl, Vy⟩
    · exact .inl ⟨l, nl, rfl, F.keep _ _ hl⟩
    · exact .inr ⟨y, rfl, Vy.up F.keep⟩
  refine extend_specR ⟨_, _, _, _, _, _, _, _, F.keep _ _ hxE'⟩ (T.up F.keep) (V.up F.keep) S' (by simpa using hn) (by walk_at "room") hh ?_
  intro x' h' tk' eh V' hN
  walk_at "r"
  refine h x' _ _ (F.keep.trans eh) (by simpa using V') ?_
  rcases hN with ⟨rfl, rfl⟩ | ⟨dx', root', tail', n', sh', toff', u1, u2, u3, q1, q2, q3⟩
  · exact .inl ⟨rfl, rfl⟩
  · exact .inr ⟨rE, cE, hrE, dx', root', tail', n', sh', toff', u1, u2, u3, q1, q2, F.keep.none q3⟩
end
/-- rows of numbers that stand, and a vector of each -/
def Rows (b : Heap) (items : List Value) (nss : List (List Int)) : Prop := items.length = nss.length ∧ ∀ (j : Nat) (v : Value), items[j]? = some v → ∃ (R : Addr) (c : Nat) (xs : List Value) (ns : List Int), v = Value.ref R ∧ b.get? R = some (LO xs c) ∧ nss[j]? = some ns ∧ IntsAre xs ns ∧ ns.length ≤ 1000
def Vecs (b : Heap) (ys : List Value) (nss : List (List Int)) (i : Nat) : Prop := ys.length = i ∧ ∀ (j : Nat) (y : Value), ys[j]? = some y → ∃ (x : Addr) (xs : List Value) (ns : List Int), y = Value.ref x ∧ VecAt b x xs ∧ nss[j]? = some ns ∧ IntsAre xs ns
theorem Rows.up {b b' : Heap} {items : List Value} {nss : List (List Int)} (r : Rows b items nss) (e : Ext b b') : Rows b' items nss :=
  ⟨r.1, fun j v h => let ⟨R, c, xs, ns, a1, a2, a3⟩ := r.2 j v h; ⟨R, c, xs, ns, a1, e _ _ a2, a3⟩⟩
theorem Vecs.up {b b' : Heap} {ys : List Value} {nss : List (List Int)} {i : Nat} (r : Vecs b ys nss i) (e : Ext b b') : Vecs b' ys nss i :=
  ⟨r.1, fun j v h => let ⟨x, xs, ns, a1, a2, a3⟩ := r.2 j v h; ⟨x, xs, ns, a1, a2.up e, a3⟩⟩
theorem Vecs.snoc {b : Heap} {ys xs : List Value} {nss : List (List Int)} {ns : List Int} {i : Nat} {x : Addr} (r : Vecs b ys nss i) (V : VecAt b x xs) (hn : nss[i]? = some ns) (hi : IntsAre xs ns) : Vecs b (ys ++ [.ref x]) nss (i + 1) := by
  refine ⟨by rw [List.length_append, r.1]; rfl, fun j y hj => ?_⟩
  by_cases q : j < ys.length
  · rw [List.getElem?_append_left q] at hj
    exact r.2 j y hj
  · rw [List.getElem?_append_right (by omega)] at hj
    have : j - ys.length = 0 := by
      have := (List.getElem?_eq_some_iff.mp hj).1
      simp only [List.length_cons, List.length_nil] at this; omega
    rw [this] at hj
    have : j = i := by have := r.1; omega
    subst this
    exact ⟨x, xs, ns, by simpa using hj.symm, V, hn, hi⟩
section
variable {prog : Program} {w : World} {A : Around} {E : Value → Shared → Prop} {mg mb : Str → Option Value} {env : Env}
set_option maxHeartbeats 4000000 in
theorem made_asg {elt iter : Expr} {x z : Str} {px pz pos spos : Pos} {scope : Scope} {cl : List (Str × Addr)} {s : Shared} {Q : Flow → Shared → Prop} (hroom : A.depth < 380) (hh : A.handled = none)
    (hsw : swapsWith (.ListComp elt [⟨.Name x px, iter, [], 0⟩] scope pos) (some (.Name z pz)) spos.line env = pure true)
    (hclos : closureFor scope env = pure cl) (hcell : ∀ y ∈ scope.names, y.2 ≠ .cell) (hkind : scope.kind = .function)
    (hnames : ∀ y ∈ scope.names, y.2 = .local → scope.names.lookup y.1 = some .local) (hx : scope.names.lookup x = some .local)
    (hs : ∀ x, foldedSetIterable iter env x = pure x) (hz : env.kindOf z = some .local) (hkz : (env.scope.kind == .class || (env.scope.kind == .module && env.locals != env.globals)) = false)
    (helt : ∀ C h₁ m₁ v tk₁ (E₁ Q₁ : Value → Shared → Prop) gs dr os, h₁.Ns C m₁ → m₁ x = some v → Tp (KK w) mg mb h₁ → (∀ tk₂, wpAny (model prog w) A (call (.ref g_python_pvector) [v]) Q₁ E₁ ⟨h₁, gs, dr, tk₂, os⟩) → wpAny (model prog w) A (eval elt (compEnvC scope cl C env)) Q₁ E₁ ⟨h₁, gs, dr, tk₁, os⟩)
    (h : wpAny (model prog w) A (eval iter env) (fun xv s₁ => ∃ l items n nss hp b L m own gs dr tk os, env.locals = L ∧ xv = .ref l ∧ s₁ = ⟨hp, gs, dr, tk, os⟩ ∧ b.get? l = some (LO items n) ∧ Rows b items nss ∧ items.length ≤ 1000 ∧ Tp (KK w) mg mb b ∧ Fx b L hp m own ∧ (∃ q v, m q = some v) ∧ Odd own ∧
      (∀ D cc ys h' tk' b', Ext b b' → Fx b' L h' (fun q => if q = z then some (.ref D) else m q) ((D, LO ys cc) :: own) → Vecs b' ys nss items.length → Q .next ⟨h', gs, dr, tk', os⟩)) E s) :
    wpAny (model prog w) A (exec (.Assign [.Name z pz] (.ListComp elt [⟨.Name x px, iter, [], 0⟩] scope pos) spos) env) Q E s := by
  rw [exec_Assign_Name_used _ _ _ _ hsw]
  refine wpAny_bind (wpAny_standAt (wpAny_bind ?_))
  show wpAny _ A (do let _ ← comprehension (.ListComp elt [⟨.Name x px, iter, [], 0⟩] scope pos) scope env _ (newList []) false (eval iter env) (some (assign (.Name z pz) env))) _ _ s
  refine wpAny_bind (wpAny_mono (wpAny_comprehension_free (use := some (assign (.Name z pz) env)) (Q := fun _ s' => Q .next s') rfl hs hclos hkind hnames
    (wpAny_mono h (fun xv s₁ h₁ => ?_) fun _ _ e => e)) (fun _ s' hq => wpAny_pure (wpAny_pure hq)) fun _ _ e => e)
  obtain ⟨l, items, n, nss, hp, b, L, m, own, gs, dr, tk, os, hL, rfl, rfl, hl, hrows, hsz, T, F, ⟨qm, vm, hqm⟩, hodd, hQ⟩ := h₁
  have hl' := F.keep _ _ hl
  have hltl : l < hp.objs.size := Heap.lt_size hl'
  have hne : l ≠ hp.objs.size := Nat.ne_of_lt hltl
  refine wpAny_pyIter_list (isList_of hl') ?_
  dsimp only
  generalize hoI : ({ cls := _, data := _ } : Obj) = oI0
  have W : Walks prog w A hp.objs.size [hp.objs.size, l] [hp.objs.size] items.length (fun i v => items[i]? = some v) (fun i h => h.IsListIter hp.objs.size l i ∧ h.IsList l items.toArray) := by simpa using Walks.list (prog := prog) (w := w) hh hp.objs.size l hne items.toArray
  have hI0 : (hp.push oI0).IsListIter hp.objs.size l 0 := ⟨_, Heap.get?_push_size _ (by rw [← hoI]; rfl), by rw [← hoI], by rw [← hoI]; rfl⟩
  have hIn : oI0.isFreed = false := by rw [← hoI]; rfl
  have hIf : ∃ vs, oI0.data = .fields vs := ⟨_, by rw [← hoI]⟩
  have hIs : ∀ h : Heap, h.get? hp.objs.size = some oI0 → h.IsListIter hp.objs.size l 0 := fun h e => ⟨_, e, by rw [← hoI], by rw [← hoI]; rfl⟩
  clear hoI hI0
  refine wpAny_newObj_type (wpAny_newFunctionEnv hcell (by intro y hy; simp at hy) (fun h₁ hns₁ hsb₁ => ?_) hkind)
  dsimp only at hns₁ hsb₁ ⊢
  generalize hH2 : (hp.push oI0).push { cls := .type "list", dict := none, data := .seq ([] : List Value).toArray } = H2 at hns₁ hsb₁ ⊢
  have hC : H2.objs.size = hp.objs.size + 2 := by rw [← hH2, Heap.size_push, Heap.size_push]
  have hDsz : (hp.push oI0).objs.size = hp.objs.size + 1 := Heap.size_push ..
  rw [hDsz]
  have old : ∀ c o, H2.get? c = some o → h₁.get? c = some o := fun c o e => hsb₁.extBut c o (Nat.ne_of_lt (Heap.lt_size e)) (Heap.get?_push_of_some _ e)
  have kp0 : Ext hp h₁ := fun c o e => old c o (hH2 ▸ Heap.get?_push_of_some _ (Heap.get?_push_of_some _ e))
  have gI : h₁.get? hp.objs.size = some oI0 := old _ _ (hH2 ▸ Heap.get?_push_of_some _ (Heap.get?_push_size _ hIn))
  have gD : h₁.get? (hp.objs.size + 1) = some (LO [] 0) := old _ _ (by rw [← hH2, ← hDsz]; exact Heap.get?_push_size _ rfl)
  have fresh : ∀ a, hp.objs.size ≤ a → hp.get? a = none := fun a ha => by
    cases e : hp.get? a with
    | none => rfl
    | some o' => exact absurd (Heap.lt_size e) (Nat.not_lt.mpr ha)
  have F0 : Fx hp H2.objs.size h₁ _ [(hp.objs.size + 1, LO [] 0), (hp.objs.size, oI0)] := ⟨hns₁, kp0, fresh _ (by rw [hC]; omega), fun p hp' => by
      simp only [List.mem_cons, List.not_mem_nil, or_false] at hp'
      rcases hp' with rfl | rfl
      · exact gD
      · exact gI, fun p hp' => by
      simp only [List.mem_cons, List.not_mem_nil, or_false] at hp'
      rcases hp' with rfl | rfl
      · exact fresh _ (Nat.le_succ _)
      · exact fresh _ (Nat.le_refl _), by
      rw [hC]; simp⟩
  have hpp : ((compEnvC scope cl H2.objs.size env).scope.kind == .class || ((compEnvC scope cl H2.objs.size env).scope.kind == .module && (compEnvC scope cl H2.objs.size env).locals != (compEnvC scope cl H2.objs.size env).globals)) = false := by simp [compEnvC, relabel, hkind]
  have loop : codeAny (model prog w) A (.compLoop (.ListComp elt [⟨.Name x px, iter, [], 0⟩] scope pos) 0 (.ref hp.objs.size) (.ref (hp.objs.size + 1)) (compEnvC scope cl H2.objs.size env))
        (compPost (model prog w) A E (some (assign (.Name z pz) env)) (fun _ s' => Q .next s') (.ref (hp.objs.size + 1)) H2.objs.size) ⟨h₁, gs, dr, tk, os⟩ := by
    refine comp0_loop (fun k s' => ∃ h' tk i ys cc m' b' oI, s' = ⟨h', gs, dr, tk, os⟩ ∧ i ≤ items.length ∧ k = items.length + 1 - i ∧ (∀ h : Heap, h.get? hp.objs.size = some oI → h.IsListIter hp.objs.size l i) ∧ (∃ vs, oI.data = .fields vs) ∧ Ext hp b' ∧
      Fx b' H2.objs.size h' m' [(hp.objs.size + 1, LO ys cc), (hp.objs.size, oI)] ∧ Vecs b' ys nss i) ?_ (items.length + 1) ⟨h₁, _, 0, [], 0, _, hp, oI0, rfl, Nat.zero_le _, rfl, hIs, hIf, .rfl', F0, rfl, fun j y hj => by simp at hj⟩
    rintro k s' ⟨h', tk', i, ys, cc, m', b', oI, rfl, hi, rfl, hIt, ⟨vsI, hIv⟩, eb, F', hv⟩ E'
    have stI : h'.IsListIter hp.objs.size l i ∧ h'.IsList l items.toArray := ⟨hIt _ F'.head2, isList_of (F'.keep _ _ (eb _ _ hl'))⟩
    by_cases hlt : i < items.length
    · refine W.item i _ _ _ hlt stI fun v h₂ tk₂ hvi st₂ hk₂ => ?_
      dsimp only at hvi hk₂ ⊢
      obtain ⟨oI', gI', cI', dI'⟩ := st₂.1
      have F₂ := (F'.swap.turn (fun c oc nc e => hk₂ c oc (by simpa using nc) e) gI').swap
      refine wpAny_assign_Name (wpAny_storeName_local (lookup_relabel_local hx) F₂.ns (fun h₃ hn₃ hs₃ => ?_) hpp)
      have F₃ := F₂.store hn₃ hs₃
      obtain ⟨R, cR, xs, ns, rfl, hR, hns, hxi, hxz⟩ := hrows.2 i v hvi
      have ebh : Ext b h₃ := F.keep.trans (eb.trans F₃.keep)
      refine helt H2.objs.size h₃ _ (.ref R) _ _ _ _ _ _ F₃.ns (if_pos rfl) (T.up ebh) fun tk₃ => ?_
      refine pvector_specN (T.up ebh) (.inl ⟨R, cR, rfl, ebh _ _ hR⟩) (by have := hxi.length; omega) (by omega) hh ?_
      intro x' h₄ tk₄ e₄ V hN
      have F₄ := F₃.ext e₄
      obtain ⟨b₅, e₅, F₅, kp⟩ := F₄.settlex [hp.objs.size + 1] (x := x) (v := .ref R) (by simp) (List.Sublist.refl _) (fun p hp' => by
        simp only [List.mem_cons, List.not_mem_nil, or_false] at hp'
        rcases hp' with rfl | rfl
        · exact .inr (.inr (.head _))
        · exact .inr (.inl ⟨_, dI'⟩))
      have V₅ : VecAt b₅ x' xs := by
        rcases hN with ⟨rfl, rfl⟩ | ⟨r, c0, hr, N⟩
        · exact empty_vec (T.up (F.keep.trans (eb.trans e₅))).X
        · cases ys with
          | nil =>
            refine V.kpn kp F₄.head F₃.head (fun q => ?_) N
            have q1 := (F.keep.trans eb) _ _ (T.X _ _ hr)
            have q2 := F'.out _ (.head _)
            rw [q] at q1
            rw [q1] at q2
            cases q2
          | cons y0 rest =>
            refine V.kpx kp hxi (fun D' hD' => ?_)
            rw [List.mem_singleton.mp hD']
            obtain ⟨x0, xs0, ns0, rfl, V0, _⟩ := hv.2 0 y0 rfl
            obtain ⟨dx0, _, _, _, _, _, _, _, g0, _⟩ := V0.len
            exact ⟨x0, rest, cc, F₄.head, .inl ⟨_, _, F₄.keep _ _ g0⟩⟩
      have hyl := hv.1
      refine wpAny_list_append_plain ⟨cc, F₅.head⟩ (fun h₈ ⟨n', hn'⟩ hs₈ => ?_) (by rw [List.size_toArray, sizeLine_eq]; omega)
      have F₆ : Fx b₅ H2.objs.size h₈ _ [(hp.objs.size + 1, LO (ys ++ [.ref x']) n'), (hp.objs.size, oI')] := F₅.turnS hs₈ (by rw [hn']; simp)
      exact ⟨items.length + 1 - (i + 1), by omega, h₈, _, i + 1, ys ++ [.ref x'], n', _, b₅, oI', rfl, hlt, rfl, fun h e => ⟨_, e, cI', dI'⟩, ⟨_, dI'⟩, eb.trans e₅, F₆, (hv.up e₅).snoc V₅ hns hxi⟩
    · have : i = items.length := by omega
      subst this
      refine W.done _ _ _ stI fun h₂ tk₂ hk₂ => ?_
      dsimp only at hk₂ ⊢
      have notI : ∀ c o, b'.get? c = some o → c ∉ [hp.objs.size] := fun c o e q => by
        have q1 := F'.out _ (.tail _ (.head _))
        rw [List.mem_singleton.mp q] at e
        rw [e] at q1; cases q1
      have eh2 : Ext b' h₂ := fun c o e => hk₂ c o (notI c o e) (F'.keep c o e)
      have eL : Ext (hideAll b' (L :: own.map (·.1))) h₂ := fun c o e => eh2 c o (of_hideAll _ e)
      have ebb : Ext b (hideAll b' (L :: own.map (·.1))) := fun c o e => hideAll_get _ (eb c o (F.keep c o e)) (fun q => by
        rcases List.mem_cons.mp q with q | q
        · rw [q, F.lout] at e; cases e
        · obtain ⟨p, hp', rfl⟩ := List.mem_map.mp q
          rw [F.out p hp'] at e; cases e)
      have eh : Ext hp h₂ := eb.trans eh2
      have hD2 : h₂.get? (hp.objs.size + 1) = some (LO ys cc) := hk₂ _ _ (by simp) F'.head
      have FD : Fx (hideAll b' (L :: own.map (·.1))) L h₂ m ((hp.objs.size + 1, LO ys cc) :: own) := ⟨F.ns.keeps eh, eL, hideAll_none _ (.head _), fun p hp' => by
          rcases List.mem_cons.mp hp' with rfl | hp'
          · exact hD2
          · exact eh _ _ (F.has p hp'), fun p hp' => by
          rcases List.mem_cons.mp hp' with rfl | hp'
          · cases e : (hideAll b' (L :: own.map (·.1))).get? (hp.objs.size + 1) with
            | none => rfl
            | some o => have := F'.out _ (.head _); rw [of_hideAll _ e] at this; cases this
          · exact hideAll_none _ (.tail _ (List.mem_map_of_mem hp')), by
          have nd := F.nodup
          simp only [List.map_cons, List.nodup_cons, List.mem_cons, not_or] at nd ⊢
          refine ⟨⟨fun q => ?_, nd.1⟩, fun q => ?_, nd.2⟩
          · have := F.ns.lt; rw [q] at this; exact absurd this (Nat.not_lt.mpr (Nat.le_succ _))
          · obtain ⟨p, hp', e⟩ := List.mem_map.mp q
            have := Heap.lt_size (F.has p hp'); rw [e] at this; exact absurd this (Nat.not_lt.mpr (Nat.le_succ _))⟩
      have hLC : L ≠ H2.objs.size := fun q => by have := F.ns.lt; rw [q, hC] at this; exact absurd this (Nat.not_lt.mpr (Nat.le_add_right _ _))
      subst hL
      show wpAny _ A (assign (.Name z pz) env (.ref (hp.objs.size + 1))) _ _ _
      refine wpAny_assign_Name (wpAny_storeName_local hz FD.ns (fun h₃ hn₃ hs₃ => ?_) hkz)
      have F3 := FD.store hn₃ hs₃
      refine ⟨m', (F'.ns.at' fun o e => hk₂ _ o (by rw [hC]; simp) e).sameBut hs₃ (Ne.symm hLC), fun h'' hs'' => ?_⟩
      have outC : (hideAll b' (env.locals :: own.map (·.1))).get? H2.objs.size = none := by
        cases e : (hideAll b' (env.locals :: own.map (·.1))).get? H2.objs.size with
        | none => rfl
        | some o => have := F'.lout; rw [of_hideAll _ e] at this; cases this
      have ownC : ∀ p ∈ (hp.objs.size + 1, LO ys cc) :: own, p.1 ≠ H2.objs.size := fun p hp' => by
        rcases List.mem_cons.mp hp' with rfl | hp'
        · rw [hC]; exact Nat.ne_of_lt (Nat.lt_succ_self _)
        · have := Heap.lt_size (F.has p hp'); rw [hC]; exact Nat.ne_of_lt (Nat.lt_of_lt_of_le this (Nat.le_add_right _ _))
      have kp : Kp b' (hideAll b' (env.locals :: own.map (·.1))) := fun c o e so => hideAll_get _ e (fun q => by
        rcases List.mem_cons.mp q with q | q
        · obtain ⟨oL, es, ep, gL, hd, hst, hf⟩ := F.ns
          rw [q] at e
          have := eb _ _ gL
          rw [e] at this
          have := Option.some.inj this
          subst this
          rcases so.2.2 with rfl | so
          · have e1 : es = #[] := by
              have : Data.dict #[] 0 = Data.dict es ep := hd
              cases this; rfl
            subst e1
            have := hf qm
            rw [hqm] at this
            simp [nsFind, findBy] at this
          · exact so _ _ hd
        · obtain ⟨p, hp', e2⟩ := List.mem_map.mp q
          rw [← e2] at e
          have := eb _ _ (F.has p hp')
          rw [e] at this
          have := Option.some.inj this
          rcases hodd p hp' with ⟨v, hv⟩ | ⟨vs, hv⟩
          · exact so.1 v (this ▸ hv)
          · exact so.2.1 vs (this ▸ hv))
      refine hQ _ cc ys h'' _ _ ebb ⟨hn₃.sameBut hs'' hLC, fun a o q => hs''.extBut a o (fun z => by rw [z, outC] at q; cases q) (F3.keep a o q), F3.lout, fun p hp' => hs''.extBut _ _ (ownC p hp') (F3.has p hp'), F3.out, F3.nodup⟩
        ⟨hv.1, fun j y hj => let ⟨x, xs, ns, a1, a2, a3⟩ := hv.2 j y hj; ⟨x, xs, ns, a1, a2.kp kp, a3⟩⟩
  exact codeAny_compStart_list loop (W.self 0 _ _ _ ⟨hIs _ gI, isList_of (kp0 _ _ hl')⟩ loop)
end
section
variable {prog : Program} {w : World} {A : Around} {E : Value → Shared → Prop} {hp : Heap} {gs : Array GenState} {dr : Drawn} {tk : Nat} {os : OsState} {Q : Value → Shared → Prop}
theorem fold_size (a : Array Nat) : ∀ (n : Nat) (acc : Array Nat), ((List.replicate n a).foldl (· ++ ·) acc).size = acc.size + n * a.size
  | 0, acc => by simp
  | n + 1, acc => by rw [List.replicate_succ, List.foldl_cons, fold_size a n, Array.size_append, Nat.succ_mul]; omega
/-- a text of one letter, so many times -/
theorem txt_mul {x : Str} {n : Nat} {t u : Tok} (hx : x.cps.size = 1) (hn : n ≤ 1000) (h : ∀ k t' tk', k.length ≤ 1000 → Q (.str k t') ⟨hp, gs, dr, tk', os⟩) : wpAny (model prog w) A (binaryOp .Mult (.str x t) (.int (n : Int) u)) Q E ⟨hp, gs, dr, tk, os⟩ := by
  have hxl : x.length = 1 := hx
  refine PySem.P.mul_str (by simp; omega) (fun h1 _ => ?_) (fun h1 _ => ?_) ?_
  · have : (1 : Int) ≤ (2 ^ 63 - 1) / (n : Int) := (Int.le_ediv_iff_mul_le (by omega)).mpr (by omega)
    rw [hxl]; omega
  · rw [hxl]
    exact decide_eq_false (by rw [sizeLine_eq]; simp; omega)
  · split
    · exact ⟨by decide, h _ _ _ (by decide)⟩
    · split
      · exact h _ _ _ (by omega)
      · have e : (⟨(List.replicate ((n : Int)).toNat x.cps).foldl (· ++ ·) #[]⟩ : Str).length = n := by
          show ((List.replicate ((n : Int)).toNat x.cps).foldl (· ++ ·) #[]).size = n
          rw [fold_size, hx]; simp
        exact ⟨by rw [e, sizeLine_eq]; omega, h _ _ _ (by rw [e]; exact hn)⟩
end
section
variable {prog : Program} {w : World} {A : Around} {E : Value → Shared → Prop} {hp : Heap} {gs : Array GenState} {dr : Drawn} {tk : Nat} {os : OsState} {mg mb : Str → Option Value} {Q : Value → Shared → Prop}
theorem nm_loc {cn : Str} {cs : Scope} {L a : Addr} {ccd : Value} {cl : List (Str × Addr)} {n : Str} {pos : Pos} {s : Shared} (hx : (envX cn cs L a ccd cl).kindOf n = some .local) (h : wpAny (model prog w) A (loadName (envX cn cs L a ccd cl) n) Q E s) (hd : (n == ("__debug__" : Str)) = false := by decide) :
    wpAny (model prog w) A (eval (.Name n pos) (envX cn cs L a ccd cl)) Q E s := wpAny_Name h hd
/-- a list made in place, cut by a slice -/
theorem sub_cut {b : Heap} {L l : Addr} {m : Str → Option Value} {own : List (Addr × Obj)} {value slice : Expr} {its : List Value} {n : Nat} {vl vu : Value} {lo hi : Option Int} (F : Fx b L hp m own) (hl : hp.get? l = some (LO its n)) (hz : its.length ≤ 1000000) (pl : IsPart vl lo) (pu : IsPart vu hi)
    (h : ∀ D h', Fx b L h' m ((D, LO (cutL its lo hi) 0) :: own) → Ext hp h' → Q (.ref D) ⟨h', gs, dr, tk, os⟩)
    (hs : subscripted slice false (.ref l) (.ref hp.objs.size) = operate [.ref hp.objs.size, .ref l] (getItem (.ref l) (.ref hp.objs.size)) := by with_unfolding_all rfl) :
    wpAny (model prog w) A (subscriptTail value slice (.ref l) (.ref hp.objs.size)) Q E ⟨hp.push (SlO vl vu .none), gs, dr, tk, os⟩ := by
  have hl' := Heap.get?_push_of_some (SlO vl vu .none) hl
  refine tail_any (isList_of hl').typeIs slot_list_getitem.lookup (gi_slice (F.ext (.of_push (SlO vl vu .none))) hl' (Heap.get?_push_size _ rfl) pl pu .none (by simp) hz ?_) hs
  exact fun D h' F' e => h D h' F' ((Ext.of_push _).trans e)
theorem nums_three {script : List Int} : ∃ a b c r, script ++ pickNums [40, 9, 22] (some (script.length : Int)) none none = a :: b :: c :: r := by
  cases script with
  | nil => exact ⟨40, 9, 22, [], by decide⟩
  | cons a r =>
    cases r with
    | nil => exact ⟨a, 9, 22, [], by simp; decide⟩
    | cons b r =>
      cases r with
      | nil => exact ⟨a, b, 22, [], by simp; decide⟩
      | cons c r => exact ⟨a, b, c, _, rfl⟩
theorem run_size (k : Nat) : Builtin.Range.rangeSize 100 (100 + (k : Int)) 1 = (k : Int) := by
  unfold Builtin.Range.rangeSize
  simp
  try omega
theorem ints_same : ∀ {vs : List Value} {ns ms : List Int}, IntsAre vs ns → IntsAre vs ms → ns = ms
  | _, _, _, .nil, .nil => rfl
  | _, _, _, .cons n t h, h' => by
    cases h' with
    | cons _ _ h'' => rw [ints_same h h'']
theorem six_due (o : Ordering) : [Value.bool (ordN o == 0), .bool (ordN o != 0), .bool (decide (ordN o < 0)), .bool (decide (ordN o ≤ 0)), .bool (decide (0 < ordN o)), .bool (decide (0 ≤ ordN o))] = (sixO o).map Value.bool := by cases o <;> rfl
/-- where law's own code and its table of inner code lie -/
abbrev cLaw : Addr := 359
abbrev pLaw : Addr := 357
abbrev lamQ : Str := Str.ofString "law" ++ ".<locals>." ++ "<lambda>"
theorem lam_ok {p1 p2 : Pos} : LamOk { posonlyargs := [], args := [{ arg := Str.ofString "mine", annotation := none, pos := p1 }, { arg := Str.ofString "theirs", annotation := none, pos := p2 }], vararg := none, kwonlyargs := [], kw_defaults := [], kwarg := none, defaults := [] }
    { kind := .function, names := [(Str.ofString "mine", .local), (Str.ofString "theirs", .local)], isGenerator := false, isCoroutine := false } (Str.ofString "mine") (Str.ofString "theirs") :=
  ⟨fun q body pm cd ctv v1 v2 => by with_unfolding_all rfl, by decide, by with_unfolding_all rfl, by with_unfolding_all rfl, by decide +kernel, rfl, rfl, rfl, by decide, by decide⟩
local macro_rules | `(tactic| walk_at "look2") => `(tactic| first
  | with_unfolding_all rfl
  | ((try dsimp only); repeat' (first | assumption | with_reducible exact look_hit rfl | with_reducible refine look_miss (by decide) ?_)))
local macro_rules | `(tactic| walk_at "nm") => do
  let F := Lean.mkIdent `F
  `(tactic| ((with_reducible show wpAny _ _ (eval (Expr.Name _ _) _) _ _ _); first
    | (refine nm_loc (by with_unfolding_all rfl) ?_; refine l_loc $F (by walk_at "look2") ?_)
    | walk_at "glob"))
local macro_rules | `(tactic| walk_at "rc") => `(tactic| repeat (first | walk_at "nm" | walk_at "e"))
theorem tab_base {h : Heap} (hT : TabsAt [(cLaw, pLaw)] h) (T : Tp (KK w) mg mb h) : Tp (KK w) mg mb (hideAll h [pLaw]) :=
  ⟨ghost_K hT T.X (by kernel_rfl), ghost_ns hT T.g, ghost_ns hT T.b, (let ⟨mc, a, r⟩ := T.nolimit; ⟨mc, ghost_ns hT a, r⟩), T.builtins⟩
set_option maxHeartbeats 8000000 in
theorem law_spec {items : List Value} {script : List Int} {S : Addr} {nS : Nat} (T0 : Tp (KK w) mg mb hp) (hT : TabsAt [(cLaw, pLaw)] hp) (B0 : hp.BuiltinsAt mg pLaw) (hS0 : hp.get? S = some (LO items nS)) (hi : IntsAre items script) (hm : script.length ≤ 63) (hroom : A.depth < 310) (hu : A.units < 400) (hh : A.handled = none) (hfr : A.frames = some [])
    (h : ∀ h' tk, Ext (hideAll hp [pLaw]) h' → (∃ ps, h'.get? pLaw = some (tabObj ps)) → Q (.bool true) ⟨h', gs, dr, tk, os⟩) : wpAny (model prog w) A (call (.ref g_law) [.ref S]) Q E ⟨hp, gs, dr, tk, os⟩ := by
  have hl1 := hi.length
  have hP := (hT _ (.head _)).2
  have T := tab_base hT T0
  have C : CodeHd (hideAll hp [pLaw]) cLaw pLaw := (ghost_code hT).1
  have B : (hideAll hp [pLaw]).BuiltinsAt mg pLaw := let ⟨bm, o, a1, a2, a3, a4, a5, r⟩ := B0; ⟨bm, o, a1, a2, a3, a4, hideAll_get _ a5 (by simpa using a4), r⟩
  have hS : (hideAll hp [pLaw]).get? S = some (LO items nS) := ghost_get hT hS0 (fun q => by injection q with hc _ _ _; cases hc)
  refine wpAny_call ?_
  refine call_fx [(pLaw, tabObj #[])] (binds := [(Str.ofString "script", .ref S)]) (by walk_at "room") (T0.X _ _ (lk g_law (by kernel_rfl))) (by with_unfolding_all rfl) T0.nolimit (codeRec_of T0.X (by kernel_rfl)) (BindsTo.of_eq (by with_unfolding_all rfl)) (locs (by with_unfolding_all rfl)) (fun p hp' => by rw [List.mem_singleton.mp hp']; exact hP) (by simp) ?_ (by decide +kernel)
  intro L h₁ tk F
  replace F : Fx (hideAll hp [pLaw]) L h₁ (fun y => List.lookup y [(Str.ofString "script", Value.ref S)].reverse) [(pLaw, tabObj #[])] := F
  walk_at "r"
  refine nl F ?_ (by simp)
  clear F; intro D1 h2 F _
  walk_at "r"
  refine wpAny_Slice ?_
  walk_at "r"
  refine lc_len (F.keep _ _ hS) (by omega) ?_
  intro t3 tk3
  walk_at "r"
  refine sub_cut F F.head (by simp) (.int _ _) .none ?_
  clear F; intro D2 h3 F _
  have h40 : IntsAre [Value.int 40 tk, Value.int 9 (tk + 1), Value.int 22 (tk + 1 + 1)] [40, 9, 22] := .cons _ _ (.cons _ _ (.cons _ _ .nil))
  have hcut := h40.pick (some (items.length : Int)) none none
  have hcl := cutL_length [Value.int 40 tk, Value.int 9 (tk + 1), Value.int 22 (tk + 1 + 1)] (some (items.length : Int)) none
  simp only [List.length_cons, List.length_nil] at hcl
  walk_at "r"
  refine lc_add F (F.keep _ _ hS) F.head (by omega) ?_
  clear F; intro DN h4 F _
  have hnums := hi.append hcut
  rw [hl1] at hnums
  obtain ⟨n0, n1, n2, nr, hnr⟩ := nums_three (script := script)
  rw [hnr] at hnums
  generalize hN : items ++ cutL [Value.int 40 tk, Value.int 9 (tk + 1), Value.int 22 (tk + 1 + 1)] (some (items.length : Int)) none = NN at F
  have hnums : IntsAre NN (n0 :: n1 :: n2 :: nr) := by rw [← hN, hl1]; exact hnums
  have hNl : NN.length ≤ 66 := by rw [← hN, List.length_append]; omega
  walk_at "e"
  obtain ⟨b₁, e₁, F₁, hDN⟩ := F.sink
  clear F
  have F := F₁.drop.drop; clear F₁
  replace T := T.up e₁
  obtain ⟨t0, hn0⟩ := hnums.get 0 n0 rfl
  obtain ⟨t1, hn1⟩ := hnums.get 1 n1 rfl
  obtain ⟨t2, hn2⟩ := hnums.get 2 n2 rfl
  walk_at "rc"
  refine cut_list F (F.keep _ _ hDN) (by omega) (.int _ _) (.int _ _) ?_
  clear F; intro D5 h5 F _
  have hq5 := hnums.pick (some 3) (some 13) none
  have hq6 := cutL_length NN (some 3) (some 13)
  walk_at "rc"
  refine sub_list (F.keep _ _ hDN) (by decide) (by decide) hn0 ?_
  walk_at "rc"
  refine x_mod (by decide) ?_
  obtain ⟨run, hrun, hrl⟩ : ∃ run : Nat, n0.fmod 41 = run ∧ run < 41 := by
    have h1 := Int.fmod_nonneg_of_pos n0 (show (0 : Int) < 41 by decide)
    have h2 := Int.fmod_lt_of_pos n0 (show (0 : Int) < 41 by decide)
    exact ⟨(n0.fmod 41).toNat, (Int.toNat_of_nonneg h1).symm, by omega⟩
  rw [hrun]
  walk_at "rc"
  refine rg2 F ?_
  clear F; intro r1 h6 v6 tk6 F _
  walk_at "rc"
  refine lc_range F F.head (rsmall (by decide) (by omega) (by decide) (by decide)) (run_size run) (by omega) hh ?_
  clear F; intro D6 c6 ys6 h7 tk7 F _ hy6
  have hy6l := hy6.length
  simp only [rangeL, List.length_map, List.length_range] at hy6l
  walk_at "rc"
  refine lc_add F F.head3 F.head (by omega) ?_
  clear F; intro R0 h8 F _
  have hx0 := hq5.append hy6
  generalize hns0 : pickNums (n0 :: n1 :: n2 :: nr) (some 3) (some 13) none ++ rangeL 100 1 run = ns0 at hx0
  have hx0l : ns0.length ≤ 110 := by
    have := hx0.length
    have e : (cutL NN (some 3) (some 13) ++ ys6).length = ns0.length := this
    rw [List.length_append] at e; omega
  replace hx0 : IntsAre (cutL NN (some 3) (some 13) ++ ys6) ns0 := hx0
  generalize cutL NN (some 3) (some 13) ++ ys6 = xs0 at F hx0
  obtain ⟨b₂, e₂, F₂, hR0⟩ := F.sink
  clear F
  have F := F₂.drop.drop.drop; clear F₂
  replace T := T.up e₂
  replace hDN := e₂ _ _ hDN
  walk_at "rc"
  refine nl F ?_ (by simp)
  clear F; intro DR h9 F _
  walk_at "rc"
  refine gm_list F.head PySem.F.slot_list_append (by with_unfolding_all rfl) ?_
  walk_at "rc"
  refine cw_fn T (by kernel_rfl) ?_
  walk_at "rc"
  refine sub_list F.head (by decide) (by decide) rfl ?_
  walk_at "rc"
  refine sub_list (F.keep _ _ hDN) (by decide) (by decide) hn1 ?_
  walk_at "rc"
  refine ⟨F.keep, ?_⟩
  refine changed_spec (T.up F.keep) (F.keep _ _ hR0) hx0 (by omega) (by walk_at "room") hh ?_
  intro R1 cR1 xs1 ns1 g1 tkg1 eg1 hRn1 hR1' hx1 hx1l
  replace F := F.gain eg1 hRn1 hR1'
  obtain ⟨c1, f1, F1, hR1⟩ := F.sink
  clear F hR1'
  have F := F1; clear F1
  replace T := T.up f1
  replace hDN := f1 _ _ hDN
  replace hR0 := f1 _ _ hR0
  walk_at "rc"
  refine lc_append F (by simp) ?_
  clear F; intro gg1 nn1 F
  walk_at "rc"
  refine gm_list F.head PySem.F.slot_list_append (by with_unfolding_all rfl) ?_
  walk_at "rc"
  refine cw_fn T (by kernel_rfl) ?_
  walk_at "rc"
  refine sub_list F.head (by decide) (by decide) rfl ?_
  walk_at "rc"
  refine sub_list (F.keep _ _ hDN) (by decide) (by decide) hn2 ?_
  walk_at "rc"
  refine ⟨F.keep, ?_⟩
  refine changed_spec (T.up F.keep) (F.keep _ _ hR1) hx1 (by omega) (by walk_at "room") hh ?_
  intro R2 cR2 xs2 ns2 g2 tkg2 eg2 hRn2 hR2' hx2 hx2l
  replace F := F.gain eg2 hRn2 hR2'
  obtain ⟨c2, f2, F2, hR2⟩ := F.sink
  clear F hR2'
  have F := F2; clear F2
  replace T := T.up f2
  replace hDN := f2 _ _ hDN
  replace hR0 := f2 _ _ hR0
  replace hR1 := f2 _ _ hR1
  walk_at "rc"
  refine lc_append F (by simp) ?_
  clear F; intro gg2 nn2 F
  walk_at "rc"
  obtain ⟨b₃, e₃, F₃, hDR⟩ := F.sink
  clear F
  have F := F₃; clear F₃
  replace T := T.up e₃
  replace hDN := e₃ _ _ hDN
  replace hR0 := e₃ _ _ hR0
  replace hR1 := e₃ _ _ hR1
  replace hR2 := e₃ _ _ hR2
  have hz0 : ns0.length ≤ 1000 := by omega
  have hz1 : ns1.length ≤ 1000 := by omega
  have hz2 : ns2.length ≤ 1000 := by omega
  have hrows : Rows b₃ [.ref R0, .ref R1, .ref R2] [ns0, ns1, ns2] := ⟨rfl, fun j v hj => by
    match j, hj with
    | 0, hj => cases hj; exact ⟨R0, _, _, ns0, rfl, hR0, rfl, hx0, hz0⟩
    | 1, hj => cases hj; exact ⟨R1, _, _, ns1, rfl, hR1, rfl, hx1, hz1⟩
    | 2, hj => cases hj; exact ⟨R2, _, _, ns2, rfl, hR2, rfl, hx2, hz2⟩
    | j + 3, hj => cases hj⟩
  replace hDR : b₃.get? DR = some (LO [.ref R0, .ref R1, .ref R2] nn2) := hDR
  have ebase : Ext (hideAll hp [pLaw]) b₃ := e₁.trans (e₂.trans (f1.trans (f2.trans e₃)))
  clear hq5 hq6 hy6 hy6l hcut hcl hnums hn0 hn1 hn2 hN hnr hDN h40 hrun
  refine made_asg (mg := mg) (mb := mb) (by walk_at "room") hh (by with_unfolding_all rfl) (cl := []) (by with_unfolding_all rfl) (by decide +kernel) rfl (by decide +kernel) rfl (by intro _; rfl) (by with_unfolding_all rfl) (by with_unfolding_all rfl) ?_ ?_
  · intro C' h₁' m₁' v tk₁' E₁' Q₁' gs dr os hn hv T1 hc
    refine Call_ ?_ (by with_unfolding_all rfl)
    refine Name_function_global (by with_unfolding_all rfl) (by with_unfolding_all rfl) (loadGlobal_global T1.g (mg_of T1.X T1.g (v := .ref g_python_pvector) (by kernel_rfl)) ?_) (by decide)
    refine cw_fn T1 (by kernel_rfl) ?_
    refine args_cons (c_loc hn hv ?_) (by with_unfolding_all rfl)
    refine args_nil ?_
    exact ⟨.rfl', hc _⟩
  walk_at "rc"
  refine ⟨DR, _, _, [ns0, ns1, ns2], _, b₃, L, _, _, gs, dr, _, os, rfl, rfl, rfl, hDR, hrows, by simp, T, F, ⟨Str.ofString "rows", .ref DR, by walk_at "look2"⟩, fun p hp' => ?_, ?_⟩
  · rw [List.mem_singleton.mp hp']; exact .inr ⟨_, rfl⟩
  clear F; intro DM cM vs h10 tk10 b₄ e₄ F hvs
  replace T := T.up e₄
  replace hDR := e₄ _ _ hDR
  replace hrows := hrows.up e₄
  replace hR0 := e₄ _ _ hR0
  obtain ⟨b₅, e₅, F₅, hDM⟩ := F.sink
  clear F
  have F := F₅; clear F₅
  replace T := T.up e₅
  replace hDR := e₅ _ _ hDR
  replace hrows := hrows.up e₅
  replace hvs := hvs.up e₅
  replace hR0 := e₅ _ _ hR0
  replace ebase := ebase.trans (e₄.trans e₅)
  have C := C.keeps ebase
  have B : b₅.BuiltinsAt mg pLaw := BuiltinsAt.keeps' B fun c o _ e => ebase _ _ e
  replace F : Fx b₅ L h10 _ [(pLaw, tabObj #[])] := F
  walk_at "rc"
  refine wpAny_For ?_
  walk_at "rc"
  refine for_duoX F hDR hDM hh (fun i b' m' own' => ∃ ps, own' = [(pLaw, tabObj ps)] ∧ Tabd b' lamQ ps ∧ m' (Str.ofString "rows") = some (.ref DR) ∧ m' (Str.ofString "made") = some (.ref DM)) ⟨#[], rfl, Tabd.nil, by walk_at "look2", by walk_at "look2"⟩ ?_ ?_
  · clear F
    rintro i v1 v2 b₆ m₆ own₆ h11 tk11 it E1 hlt1 hv1 hv2 ⟨ps, rfl, D, q1, q2⟩ e₆ F
    obtain ⟨Ra, ca, xs, ns, rfl, hRa, hns, hxs, hnz⟩ := hrows.2 i v1 hv1
    obtain ⟨xa, xv, ns', rfl, Va, hns', hxv⟩ := hvs.2 i v2 hv2
    rw [hns] at hns'
    cases hns'
    replace hRa := e₆ _ _ hRa
    replace Va := Va.up e₆
    have T := T.up e₆
    have hDR := e₆ _ _ hDR
    have hDM := e₆ _ _ hDM
    have C := C.keeps e₆
    have B : b₆.BuiltinsAt mg pLaw := BuiltinsAt.keeps' B fun c o _ e => e₆ _ _ e
    have hrows := hrows.up e₆
    have hvs := hvs.up e₆
    replace F : Fx b₆ L h11 _ ((pLaw, tabObj ps) :: it) := F
    walk_at "rc"
    refine wpAny_For ?_
    walk_at "rc"
    refine for_duoX F hDR hDM hh (fun j b' m' own' => ∃ ps, own' = (pLaw, tabObj ps) :: it ∧ Tabd b' lamQ ps ∧ m' (Str.ofString "rows") = some (.ref DR) ∧ m' (Str.ofString "made") = some (.ref DM) ∧ m' (Str.ofString "left") = some (.ref Ra) ∧ m' (Str.ofString "vector") = some (.ref xa))
      ⟨ps, rfl, D, by walk_at "look2", by walk_at "look2", by walk_at "look2", by walk_at "look2"⟩ ?_ ?_
    · clear F D q1 q2 ps
      rintro j w1 w2 b₇ m₇ own₇ h12 tk12 it2 E2 hlt2 hw1 hw2 ⟨ps, rfl, D, q1, q2, q3, q4⟩ e₇ F
      obtain ⟨Rb, cb, ys, ms, rfl, hRb, hms, hys, hmz⟩ := hrows.2 j w1 hw1
      obtain ⟨xb, yv, ms', rfl, Vb, hms', hyv⟩ := hvs.2 j w2 hw2
      rw [hms] at hms'
      cases hms'
      have hRa := e₇ _ _ hRa
      have Va := Va.up e₇
      have hRb := e₇ _ _ hRb
      have Vb := Vb.up e₇
      have T := T.up e₇
      have C := C.keeps e₇
      have B : b₇.BuiltinsAt mg pLaw := BuiltinsAt.keeps' B fun c o _ e => e₇ _ _ e
      replace F : Fx b₇ L h12 _ ((pLaw, tabObj ps) :: (it ++ it2)) := F
      walk_at "rc"
      refine cw_fn T (by kernel_rfl) ?_
      walk_at "rc"
      refine ⟨F.keep, ?_⟩
      refine order_spec (T.up F.keep) (F.keep _ _ hRa) (F.keep _ _ hRb) hxs hys (by omega) (by omega) (by walk_at "room") hh ?_
      intro h13 tk13 t13 e13
      replace F := F.ext e13
      walk_at "rc"
      rw [six_due]
      refine nl F ?_ (by simp [sixO])
      clear F; intro DU h14 F _
      obtain ⟨b₈, e₈, F₈, hDU⟩ := F.sink
      clear F
      have F := F₈; clear F₈
      have hRa := e₈ _ _ hRa
      have Va := Va.up e₈
      have hRb := e₈ _ _ hRb
      have Vb := Vb.up e₈
      have T := T.up e₈
      have C := C.keeps e₈
      have B : b₈.BuiltinsAt mg pLaw := BuiltinsAt.keeps' B fun c o _ e => e₈ _ _ e
      have D := D.up e₈
      have hxy : xa = xb → ns = ms := fun q => by
        subst q
        rw [Va.one Vb] at hxv
        exact ints_same hxv hyv
      walk_at "rc"
      refine cw_fn T (by kernel_rfl) ?_
      walk_at "rc"
      refine cw_fn T (by kernel_rfl) ?_
      walk_at "rc"
      refine ⟨F.keep, ?_⟩
      refine signs_spec (T.up F.keep) (told_vv (T.up F.keep) (Va.up F.keep) (Vb.up F.keep) hxy hxv hyv hnz hmz) (by walk_at "room") (by simp only [Around.deeper]; omega) hh ?_
      intro DS2 h24 tk24 e24 hDSn2 hDS2
      replace F := F.gain e24 hDSn2 hDS2
      walk_at "rc"
      refine ⟨F.keep, ?_⟩
      refine same_spec (T.up F.keep) F.head (F.keep _ _ hDU) (by walk_at "room") hh ?_
      intro h25 tk25 e25
      replace F := (F.ext e25).drop
      walk_at "rc"
      rw [if_neg (by decide)]
      walk_at "rc"
      refine cw_fn T (by kernel_rfl) ?_
      walk_at "rc"
      refine cw_fn T (by kernel_rfl) ?_
      walk_at "rc"
      refine ⟨F.keep, ?_⟩
      refine signs_spec (T.up F.keep) (told_vl (T.up F.keep) (Va.up F.keep) (F.keep _ _ hRb) hxv hys hnz hmz) (by walk_at "room") (by simp only [Around.deeper]; omega) hh ?_
      intro DS3 h34 tk34 e34 hDSn3 hDS3
      replace F := F.gain e34 hDSn3 hDS3
      walk_at "rc"
      refine ⟨F.keep, ?_⟩
      refine same_spec (T.up F.keep) F.head (F.keep _ _ hDU) (by walk_at "room") hh ?_
      intro h35 tk35 e35
      replace F := (F.ext e35).drop
      walk_at "rc"
      rw [if_neg (by decide)]
      walk_at "rc"
      refine cw_fn T (by kernel_rfl) ?_
      walk_at "rc"
      refine cw_fn T (by kernel_rfl) ?_
      walk_at "rc"
      refine ⟨F.keep, ?_⟩
      refine signs_spec (T.up F.keep) (told_lv (T.up F.keep) (F.keep _ _ hRa) (Vb.up F.keep) hyv hxs hmz hnz) (by walk_at "room") (by simp only [Around.deeper]; omega) hh ?_
      intro DS4 h44 tk44 e44 hDSn4 hDS4
      replace F := F.gain e44 hDSn4 hDS4
      walk_at "rc"
      refine ⟨F.keep, ?_⟩
      refine same_spec (T.up F.keep) F.head (F.keep _ _ hDU) (by walk_at "room") hh ?_
      intro h45 tk45 e45
      replace F := (F.ext e45).drop
      walk_at "rc"
      rw [if_neg (by decide)]
      walk_at "rc"
      refine cw_fn T (by kernel_rfl) ?_
      walk_at "rc"
      refine lam_made (q := lamQ) rfl F T C B (by decide) D ?_
      clear F D
      intro f5 cd5 ps5 h56 tk56 b₉ pm5 ctv5 eb5 F D hcd5
      walk_at "rc"
      refine ⟨eb5.trans F.keep, ?_⟩
      have hRa := eb5 _ _ hRa
      have Va := Va.up eb5
      have hRb := eb5 _ _ hRb
      have Vb := Vb.up eb5
      have T := T.up eb5
      have C := C.keeps eb5
      have B : b₉.BuiltinsAt mg pLaw := BuiltinsAt.keeps' B fun c o _ e => eb5 _ _ e
      refine cmp_lam lam_ok F.head (hcd5.keeps F.keep) (T.up F.keep) (Va.up F.keep) (F.keep _ _ hRb) (by have := hxv.length; omega) (by walk_at "room") hh ?_
      intro R5 Dx5 cx5 h57 tk57 e57 hRn5 hRR5 hDx5
      replace F := F.gain e57 hRn5 hRR5
      walk_at "rc"
      refine nl F ?_ (by simp)
      clear F; intro E5 h58 F e58
      walk_at "rc"
      refine ne_alike F.head2 F.head (e58 _ _ hDx5) (F.keep _ _ hRb) (F.keep _ _ hRa) (F.keep _ _ hRb) hxv hys hxs hys (by simp only [Around.deeper, cLine]; omega) ?_
      replace F := F.drop.drop.drop
      walk_at "rc"
      rw [if_neg (by decide)]
      walk_at "rc"
      refine cw_fn T (by kernel_rfl) ?_
      walk_at "rc"
      refine lam_made (q := lamQ) rfl F T C B (by decide) D ?_
      clear F D
      intro f6 cd6 ps6 h66 tk66 b₁₀ pm6 ctv6 eb6 F D hcd6
      walk_at "rc"
      refine ⟨eb6.trans F.keep, ?_⟩
      have hRa := eb6 _ _ hRa
      have Va := Va.up eb6
      have hRb := eb6 _ _ hRb
      have Vb := Vb.up eb6
      have T := T.up eb6
      have C := C.keeps eb6
      have B : b₁₀.BuiltinsAt mg pLaw := BuiltinsAt.keeps' B fun c o _ e => eb6 _ _ e
      refine cmp_lam2 lam_ok F.head (hcd6.keeps F.keep) (T.up F.keep) (Va.up F.keep) (Vb.up F.keep) (by have := hxv.length; omega) (by have := hyv.length; omega) (by walk_at "room") hh ?_
      intro R6 Dx6 Dy6 cx6 cy6 h67 tk67 e67 hRn6 hRR6 hDx6 hDy6
      replace F := F.gain e67 hRn6 hRR6
      walk_at "rc"
      refine nl F ?_ (by simp)
      clear F; intro E6 h68 F e68
      walk_at "rc"
      refine ne_alike F.head2 F.head (e68 _ _ hDx6) (e68 _ _ hDy6) (F.keep _ _ hRa) (F.keep _ _ hRb) hxv hyv hxs hys (by simp only [Around.deeper, cLine]; omega) ?_
      replace F := F.drop.drop.drop
      walk_at "rc"
      rw [if_neg (by decide)]
      walk_at "rc"
      exact ⟨_, _, b₁₀, _, (pLaw, tabObj ps6) :: it, rfl, e₈.trans (eb5.trans eb6), F, ps6, rfl, D, by walk_at "look2", by walk_at "look2", by walk_at "look2", by walk_at "look2"⟩
    · clear F D q1 q2 ps
      rintro h12 tk12 b₇ m₇ own₇ ⟨ps, rfl, D, q1, q2, q3, q4⟩ e₇ F
      walk_at "rc"
      exact ⟨_, _, b₇, _, [(pLaw, tabObj ps)], rfl, e₇, F, ps, rfl, D, q1, q2⟩
  · clear F
    rintro h11 tk11 b₆ m₆ own₆ ⟨ps, rfl, D, q1, q2⟩ e₆ F
    clear D
    replace T := T.up e₆
    replace hDR := e₆ _ _ hDR
    replace hDM := e₆ _ _ hDM
    replace hvs := hvs.up e₆
    replace hR0 := e₆ _ _ hR0
    replace ebase := ebase.trans e₆
    clear C B hrows hR1 hR2
    match vs, hDM, hvs with
    | [], hDM, hvs => exact absurd hvs.1 (by simp)
    | v0 :: vr, hDM, hvs =>
    obtain ⟨x0, xv, ns', rfl, V, hns', hxv⟩ := hvs.2 0 v0 rfl
    cases hns'
    have hxl := hx0.length
    walk_at "rc"
    refine sub_list (F.keep _ _ hDR) (by decide) (by decide) rfl ?_
    walk_at "rc"
    refine sub_list (F.keep _ _ hDM) (by decide) (by decide) rfl ?_
    walk_at "rc"
    refine wpAny_For ?_
    walk_at "rc"
    refine call_tuple_list (isList_of (F.keep _ _ hR0)) (fun h12 k12 => ?_) (by rw [List.size_toArray, sizeLine_eq]; omega)
    replace F := (F.ext k12).push { cls := .type "tuple", data := .seq xs0.toArray }
    walk_at "rc"
    refine lc_len (F.keep _ _ hR0) (by omega) ?_
    intro t13 tk13
    walk_at "rc"
    refine x_str ?_
    walk_at "rc"
    refine lc_len (F.keep _ _ hR0) (by omega) ?_
    intro t14 tk14
    walk_at "rc"
    refine txt_mul (by decide) (by omega) ?_
    intro k15 t15 tk15 hk15
    walk_at "rc"
    refine nl F ?_ (by simp)
    clear F; intro DO h16 F _
    obtain ⟨b₇, e₇, F₇, hDO⟩ := F.sink
    clear F
    obtain ⟨b₈, e₈, F, htp⟩ := F₇.sink
    clear F₇
    replace hDO := e₈ _ _ hDO
    replace T := T.up (e₇.trans e₈)
    replace V := V.up (e₇.trans e₈)
    replace ebase := ebase.trans (e₇.trans e₈)
    walk_at "rc"
    have hvz : xv.length ≤ 1000 := by have := hxv.length; omega
    refine for_list F hDO hh (fun _ b' m' own' => b' = b₈ ∧ own' = [(pLaw, tabObj ps)] ∧ m' (Str.ofString "vector") = some (.ref x0)) ⟨rfl, rfl, by walk_at "look2"⟩ ?_ ?_
    · clear F
      rintro i v b₉ m₉ own₉ h17 tk17 it E1 hil hv ⟨rfl, rfl, q3⟩ e₉ F
      have hoth : Other b₉ v := by
        match i, hv with
        | 0, hv => cases hv; exact .tuple _ xs0 0 htp (by omega)
        | 1, hv => cases hv; exact .int _ _
        | 2, hv => cases hv; exact .none
        | 3, hv => cases hv; exact .str _ _ hk15
        | i + 4, hv => cases hv
      have al := alien_of (prog := prog) (gs := gs) (dr := dr) (os := os) T V hvz hoth
      replace F : Fx b₉ L h17 _ ((pLaw, tabObj ps) :: it) := F
      walk_at "rc"
      refine cw_fn T (by kernel_rfl) ?_
      walk_at "rc"
      refine al.u1 _ _ _ _ _ .Eq false (by simp) (by walk_at "room") (by simp only [Around.deeper]; omega) hh F.keep ?_
      intro j1 tkj1 ej1
      replace F := F.ext ej1
      walk_at "rc"
      refine al.u2 _ _ _ _ _ .Eq false (by simp) (by walk_at "room") (by simp only [Around.deeper]; omega) hh F.keep ?_
      intro j2 tkj2 ej2
      replace F := F.ext ej2
      walk_at "rc"
      refine al.u1 _ _ _ _ _ .NotEq true (by simp) (by walk_at "room") (by simp only [Around.deeper]; omega) hh F.keep ?_
      intro j3 tkj3 ej3
      replace F := F.ext ej3
      walk_at "rc"
      refine al.u2 _ _ _ _ _ .NotEq true (by simp) (by walk_at "room") (by simp only [Around.deeper]; omega) hh F.keep ?_
      intro j4 tkj4 ej4
      replace F := F.ext ej4
      walk_at "rc"
      refine nl F ?_ (by simp)
      clear F; intro U1 j5 F _
      walk_at "rc"
      refine nl F ?_ (by simp)
      clear F; intro U2 j6 F _
      walk_at "rc"
      refine ⟨F.keep, ?_⟩
      refine same_spec (bs := [false, false, true, true]) (T.up F.keep) F.head2 F.head (by walk_at "room") hh ?_
      intro j7 tkj7 ej7
      replace F := (F.ext ej7).drop.drop
      walk_at "rc"
      rw [if_neg (by decide)]
      walk_at "rc"
      refine wpAny_For ?_
      walk_at "rc"
      refine rg1 F ?_
      clear F; intro r1 j8 tr1 vr1 tkj8 F _
      refine for_range F.drop F.head (rsmall (by decide) (by decide) (by decide) (by decide)) (n := 4) (by decide) hh (fun _ b' m' own' => b' = b₉ ∧ own' = (pLaw, tabObj ps) :: it ∧ m' (Str.ofString "vector") = some (.ref x0) ∧ m' (Str.ofString "other") = some v)
        ⟨rfl, rfl, by walk_at "look2", by walk_at "look2"⟩ ?_ ?_
      · clear F
        rintro k tv b₁₀ m₁₀ own₁₀ h18 tk18 it2 E2 hk ⟨rfl, rfl, r1, r2⟩ e₁₀ F
        walk_at "rc"
        refine cw_fn T (by kernel_rfl) ?_
        walk_at "rc"
        refine ⟨F.keep, ?_⟩
        have eb1 : Ext b₁₀ (hideAll h18 [L]) := fun c o q => hideAll_get _ (F.keep c o q) (fun z => by rw [List.mem_singleton.mp z, F.lout] at q; cases q)
        refine asked_spec (base := hideAll h18 [L]) (T.up eb1) (alien_of (T.up eb1) (V.up eb1) hvz (hoth.up eb1)).r1 (fun _ _ e => of_hideAll _ e) (Around.frames_deeper hfr) (frames_of F (by with_unfolding_all decide) (hideAll_none _ (.head _)) trivial) (by walk_at "room") (by simp only [Around.deeper]; omega) hh ?_
        intro g1 tkg1 ug1 ek1 us1
        have F2 := F.slots eb1 (fun p hp => hideAll_get _ (F.has p hp) (fun z => F.notL hp (List.mem_singleton.mp z))) ek1 us1
        clear F
        have F := F2; clear F2
        walk_at "rc"
        refine x_str ?_
        walk_at "rc"
        refine PyProof.Rows.ne_str ?_
        rw [show (Str.ofString "refused" != Str.ofString "refused") = false by decide +kernel]
        walk_at "rc"
        rw [if_neg (by decide)]
        walk_at "rc"
        refine cw_fn T (by kernel_rfl) ?_
        walk_at "rc"
        refine ⟨F.keep, ?_⟩
        have eb2 : Ext b₁₀ (hideAll g1 [L]) := fun c o q => hideAll_get _ (F.keep c o q) (fun z => by rw [List.mem_singleton.mp z, F.lout] at q; cases q)
        refine asked_spec (base := hideAll g1 [L]) (T.up eb2) (alien_of (T.up eb2) (V.up eb2) hvz (hoth.up eb2)).r2 (fun _ _ e => of_hideAll _ e) (Around.frames_deeper hfr) (frames_of F (by with_unfolding_all decide) (hideAll_none _ (.head _)) trivial) (by walk_at "room") (by simp only [Around.deeper]; omega) hh ?_
        intro g2 tkg2 ug2 ek2 us2
        have F2 := F.slots eb2 (fun p hp => hideAll_get _ (F.has p hp) (fun z => F.notL hp (List.mem_singleton.mp z))) ek2 us2
        clear F
        have F := F2; clear F2
        walk_at "rc"
        refine x_str ?_
        walk_at "rc"
        refine PyProof.Rows.ne_str ?_
        rw [show (Str.ofString "refused" != Str.ofString "refused") = false by decide +kernel]
        walk_at "rc"
        rw [if_neg (by decide)]
        walk_at "rc"
        rw [if_neg (by decide)]
        walk_at "rc"
        exact ⟨_, _, b₁₀, _, (pLaw, tabObj ps) :: it, rfl, .rfl', F, rfl, rfl, by walk_at "look2", by walk_at "look2"⟩
      · clear F
        rintro h18 tk18 b₁₀ m₁₀ own₁₀ ⟨rfl, rfl, r1, r2⟩ e₁₀ F
        walk_at "rc"
        exact ⟨_, _, b₁₀, _, [(pLaw, tabObj ps)], rfl, .rfl', F, rfl, rfl, r1⟩
    · clear F
      rintro h17 tk17 b₉ m₉ own₉ ⟨rfl, rfl, q3⟩ e₉ F
      walk_at "rc"
      exact h _ _ (ebase.trans F.keep) ⟨_, F.head⟩
end
theorem list_of_well {P : Params} {h : Heap} {S : Addr} {items : List Value} {D : WData} {xs : List WData} (hL : h.IsList S items.toArray) (w : Well P h (.ref S) D) (e : D = .list xs) : h.get? S = some (LO items 0) := by
  subst e
  cases w with
  | list hg hw =>
    obtain ⟨o, ho, hc, ne, hd⟩ := hL
    rw [hg] at ho
    have := Option.some.inj ho
    subst this
    have hd' : Data.seq _ _ = Data.seq items.toArray ne := hd
    injection hd' with h1 h2
    rw [hg, h1]
end Mine
open Mine
set_option maxHeartbeats 8000000 in
theorem PySem.Challenge.cw_md0019_03_holds : PySem.Challenge.rw_md0019_03.Holds := by
  w_on
  o_law
  refine holds_open (q := vw) (loose := vl) (Xt := fun s => xlAt vw vv s && recOk (RowW.records PySem.Challenge.rw_md0019_03.row.toRowW) s) (XP := XL vw vv) (Yf := Hook.obs (kHook KF KA KA_is)) (Ya := Hook.val (kHook KF KA KA_is)) (YP := Hook.says (kHook KF KA KA_is)) (N := 4866)
    left_is (Hook.of (kHook KF KA KA_is)) (Hook.keeps (kHook KF KA KA_is)) (fun s e => xl_of s (Bool.and_eq_true_iff.mp e).1) XL.keeps (by rfl) (by rfl) (by rfl) (fun s e => recFacts_of (Bool.and_eq_true_iff.mp e).2) (by rfl) (by first | assumption | decide +kernel) (by decide +kernel) ⟨rfl, rfl, rfl, rfl, rfl, by decide +kernel⟩ ?hw ?hc
  case hw => w_witness2
  intro w s₀ s₁ mg mb G Y fa o pm cd doc dV kV ho hd hcd hD hmg hg args vals as hpre hlay hrd hwl hlo
  have KX := kIn_of Y
  refine Ground.open G ?_
  intro T B D TE TW
  clear hD TE TW B hd ho hcd Y D
  have hfa : fa = g_law := by
    have q := mg_of (n := Str.ofString "law") (v := .ref g_law) KX T.g (by kernel_rfl)
    have hmg' : mg (Str.ofString "law") = some (.ref fa) := hmg
    rw [q] at hmg'
    cases hmg'
    rfl
  clear hmg G
  subst hfa
  wrow_args hpre hlay hrd hwl hlo
  rename_i script hs hlay0 hL1 hr1 hl2 as4 as3 S items as0 hL ra w1 r0 hI hr hcond hcond2
  have hS := list_of_well hL w1 rfl
  obtain ⟨hp, gs, dr, tk, os⟩ := s₁
  dsimp only at hg hS KX T
  show wpAny _ _ (call (.ref g_law) [.ref S]) _ _ _
  obtain ⟨CH, hPt⟩ := tab_of (x := Str.ofString "law") (c := cLaw) (P := pLaw) T KX (by with_unfolding_all rfl) (by kernel_rfl)
  have hB : hp.BuiltinsAt mg pLaw := by
    obtain ⟨bm, ob, b1, b2, b3, b4, b5, b6⟩ := T.bmain
    refine ⟨bm, ob, b1, b2, fun q => ?_, fun q => ?_, b3, b4, b5, b6⟩
    · obtain ⟨o, es, ep, e, hd, _⟩ := T.g
      have e' : hp.get? mainGlobals = some o := e
      have b3' : hp.get? bm = some ob := b3
      rw [q, e'] at b3'; cases b3'; rw [hd] at b6; cases b6
    · have b3' : hp.get? bm = some ob := b3
      have hPt' : hp.get? pLaw = some (tabObj #[]) := hPt
      rw [q, hPt'] at b3'; cases b3'; cases b4
  refine law_spec ⟨KX, T.g, T.b, T.nolimit, T.builtins⟩ (fun q hq => by rw [List.mem_singleton.mp hq]; exact ⟨CH, hPt⟩) hB hS hI (by omega) (by decide) (by decide) rfl rfl ?_
  intro h' tk' e ⟨ps, hps⟩
  refine ⟨.inl ⟨.bool true, .bool true, [], rfl, ?_, .bool true, ?_, unshared_nil⟩, ⟨fun b o q => ?_, fun b o q => ?_⟩, rfl, .of_eq hg⟩
  · intro cls
    rfl
  · kernel_rfl
  · by_cases hb : b = pLaw
    · subst hb
      have hPt' : hp.get? pLaw = some (tabObj #[]) := hPt
      have q' : hp.get? pLaw = some o := q
      rw [hPt'] at q'; cases q'
      exact .inr (.inl ⟨(CH.tab hPt).isCodeTable, rfl, #[], ps, rfl, by simpa using hps⟩)
    · exact .inl (e _ _ (hideAll_get _ q (by simpa using hb)))
  · by_cases hb : b = pLaw
    · exact ⟨_, hb ▸ hps⟩
    · exact ⟨_, e _ _ (hideAll_get _ q (by simpa using hb))⟩
